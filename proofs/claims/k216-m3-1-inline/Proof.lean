import JvmDerived
import JvmDerived.Pilot.@@N@@Statement
import JvmDerived.Pilot.@@N@@Code
set_option linter.unusedVariables false
set_option linter.unusedSimpArgs false
@@BLOCK:TracedD.lean.txt@@
namespace Jvm.Pilot.@@N@@
open Jvm Jvm.ClassFile Sem Op Lib Jvm.Free Jvm.Stand Jvm.LawKit Jvm.RoadKit Bundle Jvm.Pilot.@@N@@.Jvm.D
theorem ql {a b c : Nat} (h : a ≤ b) (k : b ≤ c) : a ≤ c := Nat.le_trans h k
def qG (p : Program) (e : Env) (below : List Frame) (P : Outcome → State → Prop) (st : State) : Prop :=
  ∃ s₂ o, Steps p.tables e below st s₂ ∧ s₂.status = .running ∧ Ended s₂ below o ∧ P o s₂
def own_Fin (s : State) (C S : Nat) (Q : Option Value → Heap → List Loc → Prop) (o : Outcome) (U : State) : Prop := ∃ v L, o = .returned v ∧ Q v U.heap L ∧ FrameEnd s o U L C S
def qu {α : Type} (f : Nat → α) (j : Nat) (v : α) : Nat → α := fun i => if i = j then v else f i
def qA (Z : State) (h : Heap) (a : Addr) (k : ClassId) (ty : FieldType) (n : Int32) (f : Nat → Value) : Prop := ∃ c : Cell, Arr Z h a c ty ∧ c.cls = k ∧ c.slots.size = n.toNatClampNeg ∧ ¬ n < 0 ∧ (∀ i, i < c.slots.size → c.slots[i]? = some (f i)) ∧ ∀ i, i < c.slots.size → fits ty (f i) = true
section OwnKit
variable {p : Program} {l : Launch} {e : Env} {R : Room} {s : State} {m : MethodId} {args : Array Value} {below : List Frame} {meth : Method} {c : Code} {T : State} {locs : List Loc} {cells slots C S : Nat} {P : Outcome → State → Prop} {Q : Option Value → Heap → List Loc → Prop} {Z : State} {h h' : Heap} {a b : Addr} {k : ClassId} {ty : FieldType} {n : Int32} {ws : List Addr}
theorem qb {st st' : State} (f : ∀ t, Steps p.tables e below st' t → Steps p.tables e below st t) (g : qG p e below P st') : qG p e below P st := by
  obtain ⟨s₂, o, h1, h2⟩ := g
  exact ⟨s₂, o, f _ h1, h2⟩
theorem own_end (X : Stand p l e R s m args below meth c T locs cells slots) {v : Option Value} (hv : meth.sig.returnType = none → v = none) (hlk : meth.locks = false) (eT : T.heap = h) (hQ : Q v h locs) (hc : cells ≤ C) (hs : slots ≤ S)
    {g : JFrame} (st : ∀ fs, (∀ (f : JFrame) (acts : List Action), f.method = m → f.locked = none → f.entered = [] → (doReturn e (T.setTop f) acts v).1 = T.setFrames fs) → Steps p.tables e below (T.setTop g) (T.setFrames fs)) : qG p e below (own_Fin s C S Q) (T.setTop g) := by
  obtain ⟨fs, hr, hrun, hended, hW, hsame⟩ := X.leave (v := v) hv hlk
  refine ⟨_, _, st fs hr, hrun, hended, v, locs, rfl, ?_, ⟨_, rfl⟩, hW, hsame.mono hc hs⟩
  show Q v T.heap locs
  rw [eT]; exact hQ
theorem own_retN (X : Stand p l e R s m args below meth c T locs cells slots) (hx : p.tables.exec = Jvm.exec) {pc : Nat} {Ls : Array Slot} {z : Int32} {t : FieldType} {rest : List Value} (hret : meth.sig.returnType = some t) (ht : t = .boolean ∨ t = .byte ∨ t = .char ∨ t = .short) (hd : decode c.code pc = .ok (.ireturn, 1)) (hlk : meth.locks = false) (eT : T.heap = h) (hQ : Q (some (.int (nar t z))) h locs) (hc : cells ≤ C) (hs : slots ≤ S) : qG p e below (own_Fin s C S Q) (T.setTop (mkF m pc Ls (.int z :: rest))) :=
  own_end X (fun h => by rw [hret] at h; cases h) hlk eT hQ hc hs fun fs hr => retN X hx hret ht hd hr
theorem own_retI (X : Stand p l e R s m args below meth c T locs cells slots) (hx : p.tables.exec = Jvm.exec) {pc : Nat} {Ls : Array Slot} {z : Int32} {rest : List Value} (hret : meth.sig.returnType = some .int) (hd : decode c.code pc = .ok (.ireturn, 1)) (hlk : meth.locks = false) (eT : T.heap = h) (hQ : Q (some (.int z)) h locs) (hc : cells ≤ C) (hs : slots ≤ S) : qG p e below (own_Fin s C S Q) (T.setTop (mkF m pc Ls (.int z :: rest))) :=
  own_end X (fun h => by rw [hret] at h; cases h) hlk eT hQ hc hs fun fs hr => retOut X hx hret rfl (Or.inl ⟨rfl, Or.inl rfl, _, rfl⟩) hd hr
theorem own_retR (X : Stand p l e R s m args below meth c T locs cells slots) (hx : p.tables.exec = Jvm.exec) {pc : Nat} {Ls : Array Slot} {w : Value} {t : FieldType} {rest : List Value} (hret : meth.sig.returnType = some t) (ht : t.isReference = true) (hw : w.isRef = true) (hd : decode c.code pc = .ok (.areturn, 1)) (hlk : meth.locks = false) (eT : T.heap = h) (hQ : Q (some w) h locs) (hc : cells ≤ C) (hs : slots ≤ S) : qG p e below (own_Fin s C S Q) (T.setTop (mkF m pc Ls (w :: rest))) :=
  own_end X (fun h => by rw [hret] at h; cases h) hlk eT hQ hc hs fun fs hr => retOut X hx hret (by cases t <;> first | rfl | (cases w <;> first | rfl | cases hw) | (cases ht)) (Or.inr (Or.inr (Or.inr (Or.inr ⟨rfl, ht, hw⟩)))) hd hr
theorem own_ret0 (X : Stand p l e R s m args below meth c T locs cells slots) (hx : p.tables.exec = Jvm.exec) {pc : Nat} {Ls : Array Slot} (hret : meth.sig.returnType = none) (hd : decode c.code pc = .ok (.return_, 1)) (hlk : meth.locks = false) (eT : T.heap = h) (hQ : Q none h locs) (hc : cells ≤ C) (hs : slots ≤ S) : qG p e below (own_Fin s C S Q) (T.setTop (mkF m pc Ls [])) :=
  own_end X (fun _ => rfl) hlk eT hQ hc hs fun fs hr => X.returnOut hx hret hd hr
theorem qA.lt {f : Nat → Value} (F : qA Z h a k ty n f) : a < h.size := by obtain ⟨c, A, -⟩ := F; exact A.lt
theorem qA.ext {f : Nat → Value} (F : qA Z h a k ty n f) (E : Ext h h') : qA Z h' a k ty n f := by obtain ⟨c, A, r⟩ := F; exact ⟨c, A.ext E, r⟩
theorem qA.other {f : Nat → Value} {sl : Nat} {v : Value} (F : qA Z h b k ty n f) (W : Wr h h' a sl v) (q : b ≠ a) : qA Z h' b k ty n f := by obtain ⟨c, A, r⟩ := F; exact ⟨c, A.other W q, r⟩
theorem qA.keep {f : Nat → Value} (F : qA Z h a k ty n f) (K : Keep h h' ws) (q : a ∉ ws) : qA Z h' a k ty n f := by obtain ⟨c, A, r⟩ := F; exact ⟨c, ⟨K.2.1 a c A.1 q, A.2⟩, r⟩
theorem own_arfNew (A : Arr Z h a (newA k ty n) ty) (q : ¬ n < 0) : qA Z h a k ty n (fun _ => defaultValue ty) := ⟨_, A, rfl, sz_new _ _ _, q, fun i hi => by
  rw [sz_new] at hi; simp [newA, hi], fun i _ => by cases ty <;> rfl⟩
theorem own_arfSet {cl : Cell} {f : Nat → Value} {j : Nat} {v : Value} (A : Arr Z h a cl ty) (q1 : cl.cls = k) (S : cl.slots.size = n.toNatClampNeg) (q3 : ¬ n < 0) (H : ∀ i, i < cl.slots.size → cl.slots[i]? = some (f i)) (G : ∀ i, i < cl.slots.size → fits ty (f i) = true) (hv : fits ty v = true) (W : Wr h h' a j v) : qA Z h' a k ty n (qu f j v) := by
  refine ⟨_, A.same W, q1, by rw [sz_set]; exact S, q3, fun i hi => ?_, fun i hi => ?_⟩
  · rw [sz_set] at hi
    by_cases u : j = i
    · subst u; simp [Cell.setSlot, hi, qu]
    · have := H i hi; simp only [Cell.setSlot] at this ⊢
      rw [Array.getElem?_setIfInBounds_ne u, this]; simp [qu, Ne.symm u]
  · rw [sz_set] at hi
    by_cases u : j = i
    · subst u; simpa [qu] using hv
    · have := G i hi; simpa [qu, Ne.symm u] using this
theorem own_arfSetI {cl : Cell} {f : Nat → Int32} {j : Nat} {v : Int32} (A : Arr Z h a cl ty) (q1 : cl.cls = k) (S : cl.slots.size = n.toNatClampNeg) (q3 : ¬ n < 0) (H : ∀ i, i < cl.slots.size → cl.slots[i]? = some (.int (f i))) (G : ∀ i, i < cl.slots.size → fits ty (.int (f i)) = true) (hv : fits ty (.int v) = true) (W : Wr h h' a j (.int v)) : qA Z h' a k ty n (fun i => .int (qu f j v i)) := by
  have q := own_arfSet (f := fun i => .int (f i)) A q1 S q3 H G hv W
  have e : (qu (fun i => Value.int (f i)) j (.int v)) = (fun i => .int (qu f j v i)) := by funext i; simp only [qu]; split <;> rfl
  rw [← e]; exact q
theorem own_neArr {A0 : Array Value} {C : String} {kk : Nat} {f : Nat → Value} (F : Exa Z h a C) (wi : (Cond.instantiable C kk).before A0 Z = true) (G : qA Z h b k ty n f) : a ≠ b := by
  obtain ⟨c, A, -⟩ := G
  exact ne_arr F wi A
theorem own_fitO {t : String} {v : Value} (h : v.isRef = true) : fits (.object t) v = true := by cases v <;> first | rfl | cases h
theorem qx {C : String} (E : Exa Z h a C) : ∀ c : Cell, h[a]? = some c → c.vm.isStatics = false := fun c hc => by
  obtain ⟨cell, k, h1, -, -, h4, -⟩ := E
  cases h1.symm.trans hc; exact h4
theorem qa {f : Nat → Value} (F : qA Z h a k ty n f) : ∀ c : Cell, h[a]? = some c → c.vm.isStatics = false := fun c hc => by
  obtain ⟨cell, A, -⟩ := F
  cases A.1.symm.trans hc; exact A.plain
theorem qk {C nn d : String} {w : Value} (F : Sta Z h C nn d w) (K : Keep h h' ws) (hp : ∀ x ∈ ws, ∀ c : Cell, h[x]? = some c → c.vm.isStatics = false) : Sta Z h' C nn d w := by
  obtain ⟨cf, i, k, f, st, cell, h1, h2, h3, h4, h5, h6, h7⟩ := F
  have hn : st ∉ ws := fun hm => by have := hp st hm cell h5; rw [h6] at this; cases this
  exact ⟨cf, i, k, f, st, cell, h1, h2, h3, h4, K.2.1 st cell h5 hn, h6, h7⟩
end OwnKit

def own_FinW (Z : State) (EL : List (String × Nat)) (s : State) (C S : Nat) (Q : Option Value → Heap → List Loc → Prop) (o : Outcome) (U : State) : Prop := ∃ v L, o = .returned v ∧ Q v U.heap L ∧ CHr Z EL s.vm s.heap U.vm U.heap ∧ ReturnedEndW s o U L C S
def own_li (l : List Int32) : Nat → Int32 := fun i => l.getD i 0
section OwnCold
variable {p : Program} {l : Launch} {e : Env} {R : Room} {s : State} {m : MethodId} {args : Array Value} {below : List Frame} {meth : Method} {c : Code} {T : State} {locs : List Loc} {cells slots C S : Nat} {Q : Option Value → Heap → List Loc → Prop} {Z : State} {h h' h0 : Heap} {a b : Addr} {k : ClassId} {ty : FieldType} {n : Int32} {ws : List Addr} {a0 : Array Value} {EL : List (String × Nat)} {vm0 : Vm} {k0 : Nat}
theorem own_endW (X : Stand p l e R (s.setVm vm0) m args below meth c T locs cells slots) (hS : s.Since vm0 k0) (hk : k0 ≤ h.size) (hZ : Z.Warmed39 vm0) (hEL : EW Z a0 EL) (hh : s.heap = h0) (CR : CHr Z EL s.vm h0 vm0 h) {v : Option Value} (hv : meth.sig.returnType = none → v = none) (hlk : meth.locks = false) (eT : T.heap = h) (hQ : Q v h locs) (hc : cells ≤ C) (hs : slots ≤ S)
    {g : JFrame} (st : ∀ fs, (∀ (f : JFrame) (acts : List Action), f.method = m → f.locked = none → f.entered = [] → (doReturn e (T.setTop f) acts v).1 = T.setFrames fs) → Steps p.tables e below (T.setTop g) (T.setFrames fs)) : qG p e below (own_FinW Z EL s C S Q) (T.setTop g) := by
  obtain ⟨fs, hr, hrun, hended, hret, hW, hB, hsame⟩ := X.leaveW hS (by rw [eT]; exact hk) (v := v) hv hlk
  refine ⟨_, _, st fs hr, hrun, hended, v, locs, rfl, ?_, ?_, ⟨_, rfl⟩, hW, hB, hsame.mono hc hs⟩
  · show Q v T.heap locs
    rw [eT]; exact hQ
  · show CHr Z EL s.vm s.heap T.vm T.heap
    rw [hh, eT]; exact CR.trans (CHv.at X hZ hEL CR.1)
theorem own_retNW (X : Stand p l e R (s.setVm vm0) m args below meth c T locs cells slots) (hx : p.tables.exec = Jvm.exec) (hS : s.Since vm0 k0) (hk : k0 ≤ h.size) (hZ : Z.Warmed39 vm0) (hEL : EW Z a0 EL) (hh : s.heap = h0) (CR : CHr Z EL s.vm h0 vm0 h) {pc : Nat} {Ls : Array Slot} {z : Int32} {t : FieldType} {rest : List Value} (hret : meth.sig.returnType = some t) (ht : t = .boolean ∨ t = .byte ∨ t = .char ∨ t = .short) (hd : decode c.code pc = .ok (.ireturn, 1)) (hlk : meth.locks = false) (eT : T.heap = h) (hQ : Q (some (.int (nar t z))) h locs) (hc : cells ≤ C) (hs : slots ≤ S) : qG p e below (own_FinW Z EL s C S Q) (T.setTop (mkF m pc Ls (.int z :: rest))) :=
  own_endW X hS hk hZ hEL hh CR (fun h => by rw [hret] at h; cases h) hlk eT hQ hc hs fun fs hr => retN X hx hret ht hd hr
theorem own_retRW (X : Stand p l e R (s.setVm vm0) m args below meth c T locs cells slots) (hx : p.tables.exec = Jvm.exec) (hS : s.Since vm0 k0) (hk : k0 ≤ h.size) (hZ : Z.Warmed39 vm0) (hEL : EW Z a0 EL) (hh : s.heap = h0) (CR : CHr Z EL s.vm h0 vm0 h) {pc : Nat} {Ls : Array Slot} {w : Value} {t : FieldType} {rest : List Value} (hret : meth.sig.returnType = some t) (ht : t.isReference = true) (hw : w.isRef = true) (hd : decode c.code pc = .ok (.areturn, 1)) (hlk : meth.locks = false) (eT : T.heap = h) (hQ : Q (some w) h locs) (hc : cells ≤ C) (hs : slots ≤ S) : qG p e below (own_FinW Z EL s C S Q) (T.setTop (mkF m pc Ls (w :: rest))) :=
  own_endW X hS hk hZ hEL hh CR (fun h => by rw [hret] at h; cases h) hlk eT hQ hc hs fun fs hr => retOut X hx hret (by cases t <;> first | rfl | (cases w <;> first | rfl | cases hw) | (cases ht)) (Or.inr (Or.inr (Or.inr (Or.inr ⟨rfl, ht, hw⟩)))) hd hr
theorem own_arfSafe {f : Nat → Value} {vm : Vm} (F : qA Z h a k ty n f) (hal : Z.vm.Alike vm) (ht : ty ≠ .byte) : Safe Z EL vm h a := by
  obtain ⟨c, A, -⟩ := F
  exact Safe.arr hal A ht
theorem own_arfLi {vs : List Int32} (V : Arv Z h b k ty n (vs.map Value.int) (.int 0)) : qA Z h b k ty n (fun i => .int (own_li vs i)) := by
  obtain ⟨c, A, q1, q2, q3, H, G⟩ := V
  have e : ∀ i, (vs.map Value.int).getD i (.int 0) = .int (own_li vs i) := fun i => by
    simp only [own_li, List.getD_eq_getElem?_getD, List.getElem?_map]
    cases vs[i]? <;> rfl
  exact ⟨c, A, q1, q2, q3, fun i hi => by rw [H i hi, e], fun i hi => by show fits ty (.int (own_li vs i)) = true; rw [← e]; exact G i hi⟩
theorem own_since (s : State) (n : Nat) : s.Since s.vm n := (State.WarmedH.refl s).since n
end OwnCold
abbrev qM (l : Launch) (Z : State) (y : MethodName) (bytes : ByteArray) (maxL : Nat) (ret : Option FieldType) (ws : List Cond) (rm : Room) (A : Array Value) (h0 : Heap) (Q : Option Value → Heap → List Loc → Prop) (C S : Nat) : Prop :=
  MetFree l y (head1 (Cond.code y bytes maxL ret :: ws) rm) (fun a U => a = A ∧ Z.Warmed39 U.vm ∧ U.heap = h0) (fun _ _ _ _ _ => True) (fun _ U o U' => ∃ v L, o = .returned v ∧ Q v U'.heap L ∧ FrameEnd U o U' L C S)
theorem own_enter {l : Launch} {Z : State} {y : MethodName} {bytes : ByteArray} {maxL : Nat} {ret : Option FieldType} {ws : List Cond} {rm : Room} {A : Array Value} {h0 : Heap} {Q : Option Value → Heap → List Loc → Prop} {C S : Nat} {F : MethodId → JFrame} (pl : plainFor y = true) (ef : ∀ m, entryFrame m A maxL = F m)
    (B : ∀ (p : Program) (e : Env) (s : State) (m : MethodId) (below : List Frame) (meth : Method) (c : Code) (s₁ : State), p.tables.exec = Jvm.exec → c.code = bytes → c.maxLocals = maxL → meth.locks = false → s.vm.findClass y.cls = some m.cls → meth.name = y.name → Stand p l e rm s m A below meth c s₁ [] 0 0 → s₁.heap = h0 → Z.Warmed39 s.vm → meth.sig.returnType = ret → qG p e below (own_Fin s C S Q) (s₁.setTop (F m))) :
    qM l Z y bytes maxL ret ws rm A h0 Q C S := by
  refine MetFree.of_bodySF pl hisR ?_
  intro p e s m args below meth c s₁ Bd hml0 hP hK
  obtain ⟨rfl, hZ, hh⟩ := hP
  rw [ef m]
  exact B p e s m below meth c s₁ Bd.exec Bd.bytes hml0 Bd.notSynchronized (findClass_of_methodNamed Bd.named) (name_of_methodNamed Bd.named Bd.method).1 (Stand.of_body Bd) (by rw [← hh, Bd.state]; rfl) hZ Bd.returns
def own_ds (code : ByteArray) (l : List (Nat × Instr × Nat)) : Bool := l.all fun q => decide (decode code q.1 = .ok (q.2.1, q.2.2))
theorem own_e {c : Code} {code : ByteArray} {l : List (Nat × Instr × Nat)} (hby : c.code = code) (h : own_ds code l = true) (i : Nat) {pc : Nat} {ins : Instr} {len : Nat} (hi : l[i]? = some (pc, ins, len)) : decode c.code pc = .ok (ins, len) := by
  rw [hby]
  have h' : (l.all fun q => decide (decode code q.1 = .ok (q.2.1, q.2.2))) = true := h
  have q : decide (decode code pc = .ok (ins, len)) = true := List.all_eq_true.mp h' (pc, ins, len) (List.mem_of_getElem? hi)
  exact of_decide_eq_true q
section OwnCall
variable {p : Program} {l : Launch} {e : Env} {R rm : Room} {s : State} {m : MethodId} {args a0 : Array Value} {below : List Frame} {meth : Method} {c : Code} {T Z : State} {locs : List Loc} {cells slots ix maxL ML : Nat} {h : Heap} {own C : String} {y : MethodName} {bytes : ByteArray} {ret r : Option FieldType} {Q : Option Value → Heap → List Loc → Prop} {ps : List FieldType} {g : JFrame} {argsL rest : List Value} {a : Addr}
def qr (R rm : Room) (maxL cells slots W : Nat) : Bool := Nat.ble (rm.frames + 1) R.frames && (Nat.ble (W + (maxL + 11) + rm.locals) R.locals && (Nat.ble (cells + rm.cells) R.cells && Nat.ble (slots + rm.slots) R.slots))
theorem own_rmS {W : Nat} (q : qr R rm maxL cells slots W = true) : rm.frames + 1 ≤ R.frames ∧ W + (maxL + 11) + rm.locals ≤ R.locals ∧ cells + rm.cells ≤ R.cells ∧ slots + rm.slots ≤ R.slots := by
  simp only [qr, Bool.and_eq_true] at q
  exact ⟨Nat.le_of_ble_eq_true q.1, Nat.le_of_ble_eq_true q.2.1, Nat.le_of_ble_eq_true q.2.2.1, Nat.le_of_ble_eq_true q.2.2.2⟩
abbrev own_W (g : JFrame) (rest : List Value) : Nat := 2 * g.monitorRoom + (rest.map fun v => v.category).sum
abbrev qE (p : Program) (l : Launch) (e : Env) (R : Room) (s : State) (m : MethodId) (args : Array Value) (below : List Frame) (meth : Method) (c : Code) (T : State) (locs : List Loc) (cells slots : Nat) (rm : Room) (Q : Option Value → Heap → List Loc → Prop) (g : JFrame) (rest : List Value) : Prop :=
  ∃ (v : Option Value) (T' : State) (L : List Loc), Stand p l e R s m args below meth c T' (locs ++ L) (cells + rm.cells) (slots + rm.slots) ∧ Q v T'.heap L ∧ ∀ target, Steps p.tables e below (T'.setTop { g with pc := g.pc + 3, stack := v.toList ++ rest }) target → Steps p.tables e below (T.setTop g) target
abbrev own_hy (y : MethodName) : Prop := y.cls ≠ "java/lang/invoke/MethodHandle" ∧ y.cls ≠ "java/lang/invoke/VarHandle"
theorem own_cS (X : Stand p l e R s m args below meth c T locs cells slots) (hx : p.tables.exec = Jvm.exec) (hZ : Z.Warmed39 s.vm) (hown : s.vm.findClass own = some m.cls) (hml : c.maxLocals = ML) (hM : qM l Z y bytes maxL ret [] rm argsL.toArray h Q rm.cells rm.slots)
    (w1 : (Cond.methodLink own ix y).before a0 Z = true) (w2 : (Cond.static y).before a0 Z = true) (w3 : (Cond.initialized y.cls).before a0 Z = true) (w4 : (Cond.code y bytes maxL ret).before a0 Z = true) (hy : own_hy y) (hd : parseMethodDescriptor y.desc = some ⟨ps, r⟩) (eT : T.heap = h)
    (hg : g.method = m) (hs : g.locals.size = ML) (hn : argsL.length = ps.length) (hst : g.stack = argsL.reverse ++ rest) (dc : decode c.code g.pc = .ok (.invokestatic ix, 3)) (rq : qr R rm maxL cells slots (own_W g rest) = true) : qE p l e R s m args below meth c T locs cells slots rm Q g rest := by
  obtain ⟨q1, q2, q3, q4⟩ := own_rmS rq
  obtain ⟨v, _, ⟨T', L', k', n'⟩, -, X', ⟨L, hQ, z1, z2, z3⟩, st⟩ := Jvm.LawKit.callS X hx hown (mvT hZ w1) (mvT hZ w2) (mvT hZ w3) (mvT hZ w4) hy (backOf (W := own_W g rest) hM hZ w4 w3 q1 q2) (g := g) hg (hs.trans hml.symm) (lenOf hd hn) hst (Nat.le_refl _) dc (fun _ _ => ⟨rfl, eT, q3, q4⟩)
  dsimp only [Pt.U, Pt.locs, Pt.cells, Pt.slots] at X' hQ z1 z2 z3 st
  subst z1 z2 z3
  exact ⟨v, T', L, X', hQ, st⟩
theorem own_cI (X : Stand p l e R s m args below meth c T locs cells slots) (hx : p.tables.exec = Jvm.exec) (hZ : Z.Warmed39 s.vm) (hown : s.vm.findClass own = some m.cls) (hml : c.maxLocals = ML) (hM : qM l Z y bytes maxL none [] rm (.ref a :: argsL).toArray h Q rm.cells rm.slots)
    (w1 : (Cond.methodLink own ix y).before a0 Z = true) (w2 : (Cond.instanceMethod y).before a0 Z = true) (w3 : (Cond.initialized y.cls).before a0 Z = true) (w4 : (Cond.code y bytes maxL none).before a0 Z = true) (hy : own_hy y) (hd : parseMethodDescriptor y.desc = some ⟨ps, r⟩) (eT : T.heap = h)
    (hi : y.name = "<init>") (hg : g.method = m) (hs : g.locals.size = ML) (hn : argsL.length = ps.length) (hst : g.stack = argsL.reverse ++ .ref a :: rest) (dc : decode c.code g.pc = .ok (.invokespecial ix, 3)) (rq : qr R rm maxL cells slots (own_W g rest) = true) : qE p l e R s m args below meth c T locs cells slots rm Q g rest := by
  obtain ⟨q1, q2, q3, q4⟩ := own_rmS rq
  obtain ⟨v, _, ⟨T', L', k', n'⟩, -, X', ⟨L, hQ, z1, z2, z3⟩, st⟩ := X.specialBack hx hi hown (mvT hZ w1) (mvT hZ w2) (mvT hZ w4) hy (backOf (W := own_W g rest) hM hZ w4 w3 q1 q2) (g := g) hg (hs.trans hml.symm) (Steps.refl _) (lenOf hd hn) hst (Nat.le_refl _) dc (fun _ _ => ⟨rfl, eT, q3, q4⟩)
  dsimp only [Pt.U, Pt.locs, Pt.cells, Pt.slots] at X' hQ z1 z2 z3 st
  subst z1 z2 z3
  exact ⟨v, T', L, X', hQ, fun _ k => st.trans k⟩
theorem own_cV (X : Stand p l e R s m args below meth c T locs cells slots) (hx : p.tables.exec = Jvm.exec) (hZ : Z.Warmed39 s.vm) (hown : s.vm.findClass own = some m.cls) (hml : c.maxLocals = ML) (hM : qM l Z y bytes maxL ret [] rm (.ref a :: argsL).toArray h Q rm.cells rm.slots)
    (w1 : (Cond.methodLink own ix y).before a0 Z = true) (w2 : (Cond.instanceMethod y).before a0 Z = true) (w3 : (Cond.initialized y.cls).before a0 Z = true) (w4 : (Cond.code y bytes maxL ret).before a0 Z = true) (hy : own_hy y) (hd : parseMethodDescriptor y.desc = some ⟨ps, r⟩) (eT : T.heap = h)
    (w5 : (Cond.declares y).before a0 Z = true) (w6 : (Cond.selects C y y).before a0 Z = true) (ex : Exa Z h a C) (hg : g.method = m) (hs : g.locals.size = ML) (hn : argsL.length = ps.length) (hst : g.stack = argsL.reverse ++ .ref a :: rest) (dc : decode c.code g.pc = .ok (.invokevirtual ix, 3)) (rq : qr R rm maxL cells slots (own_W g rest) = true) : qE p l e R s m args below meth c T locs cells slots rm Q g rest := by
  obtain ⟨q1, q2, q3, q4⟩ := own_rmS rq
  obtain ⟨_, _, i1, -, i3⟩ := isOf hZ eT ex
  obtain ⟨v, _, ⟨T', L', k', n'⟩, -, X', ⟨L, hQ, z1, z2, z3⟩, st⟩ := X.virtualBack hx hown (mvT hZ w1) (mvT hZ w5) (notFace_of_selects (args := args) (mvT hZ w6)) (mvT hZ w6) (mvT hZ w2) hy (backOf (W := own_W g rest) hM hZ w4 w3 q1 q2) i1 i3 (g := g) hg (hs.trans hml.symm) (Steps.refl _) (lenOf hd hn) hst (Nat.le_refl _) dc (fun _ _ => ⟨rfl, eT, q3, q4⟩)
  dsimp only [Pt.U, Pt.locs, Pt.cells, Pt.slots] at X' hQ z1 z2 z3 st
  subst z1 z2 z3
  exact ⟨v, T', L, X', hQ, fun _ k => st.trans k⟩
theorem own_cP (X : Stand p l e R s m args below meth c T locs cells slots) (hx : p.tables.exec = Jvm.exec) (hZ : Z.Warmed39 s.vm) (hown : s.vm.findClass own = some m.cls) (hml : c.maxLocals = ML) (hM : qM l Z y bytes maxL ret [] rm (.ref a :: argsL).toArray h Q rm.cells rm.slots)
    (w1 : (Cond.methodLink own ix y).before a0 Z = true) (w2 : (Cond.instanceMethod y).before a0 Z = true) (w3 : (Cond.initialized y.cls).before a0 Z = true) (w4 : (Cond.code y bytes maxL ret).before a0 Z = true) (hy : own_hy y) (hd : parseMethodDescriptor y.desc = some ⟨ps, r⟩) (eT : T.heap = h)
    (w5 : (Cond.privateMethod y).before a0 Z = true) (hsel : (Cond.selects y.cls y y).before args s = true) (ex : Exa Z h a C) (hg : g.method = m) (hs : g.locals.size = ML) (hn : argsL.length = ps.length) (hst : g.stack = argsL.reverse ++ .ref a :: rest) (dc : decode c.code g.pc = .ok (.invokevirtual ix, 3)) (rq : qr R rm maxL cells slots (own_W g rest) = true) : qE p l e R s m args below meth c T locs cells slots rm Q g rest := by
  obtain ⟨q1, q2, q3, q4⟩ := own_rmS rq
  obtain ⟨_, i1, i2⟩ := ex.cell
  obtain ⟨v, _, ⟨T', L', k', n'⟩, -, X', ⟨L, hQ, z1, z2, z3⟩, st⟩ := X.privateBack hx hown (mvT hZ w1) (mvT hZ w2) hsel (Cond.privateMethod_at (mvP hZ w5 (args := args))) (mvT hZ w4) hy (backOf (W := own_W g rest) hM hZ w4 w3 q1 q2) (g := g) hg (hs.trans hml.symm) (Steps.refl _) (by rw [eT]; exact i1) i2 (lenOf hd hn) hst (Nat.le_refl _) dc (fun _ _ => ⟨rfl, eT, q3, q4⟩)
  dsimp only [Pt.U, Pt.locs, Pt.cells, Pt.slots] at X' hQ z1 z2 z3 st
  subst z1 z2 z3
  exact ⟨v, T', L, X', hQ, fun _ k => st.trans k⟩
theorem qw (hw : ∀ d ∈ tables_1, d.before a0 Z = true) : ∀ (i : Nat) {d : Cond}, tables_1[i]? = some d → d.before a0 Z = true := fun i _ q => hw _ (List.mem_of_getElem? q)
end OwnCall
def own_cp {α : Type} (f : Nat → α) (sp : Nat) (g : Nat → α) (dp n : Nat) : Nat → α := fun i => if dp ≤ i ∧ i < dp + n then f (sp + (i - dp)) else g i
section OwnNat
variable {p : Program} {l : Launch} {e : Env} {R : Room} {s : State} {m : MethodId} {args : Array Value} {below : List Frame} {meth : Method} {c : Code} {T : State} {locs : List Loc} {cells slots : Nat} {Z : State} {h h' : Heap} {a b : Addr} {A0 : Array Value}
theorem own_arfArv {k : ClassId} {ty : FieldType} {n : Int32} {f : Nat → Value} (F : qA Z h a k ty n f) (dv : Value) : Arv Z h a k ty n ((List.range n.toNatClampNeg).map f) dv := by
  obtain ⟨cl, A, q, S, M, H, G⟩ := F
  have key : ∀ i, i < cl.slots.size → ((List.range n.toNatClampNeg).map f).getD i dv = f i := fun i hi => by
    rw [S] at hi
    simp [List.getD_eq_getElem?_getD, hi]
  exact ⟨cl, A, q, S, M, fun i hi => by rw [key i hi]; exact H i hi, fun i hi => by rw [key i hi]; exact G i hi⟩
theorem own_arvArf {k : ClassId} {ty : FieldType} {n : Int32} {vs : List Value} {dv : Value} {f : Nat → Value} (F : Arv Z h a k ty n vs dv) (hf : ∀ i, i < n.toNatClampNeg → vs.getD i dv = f i) : qA Z h a k ty n f := by
  obtain ⟨cl, A, q, S, M, H, G⟩ := F
  exact ⟨cl, A, q, S, M, fun i hi => by rw [← hf i (S ▸ hi)]; exact H i hi, fun i hi => by rw [← hf i (S ▸ hi)]; exact G i hi⟩
theorem own_cpA (X : Stand p l e R s m args below meth c T locs cells slots) (hx : p.tables.exec = Jvm.exec) (hZ : Z.Warmed39 s.vm) {own : String} {index : Nat} (hown : s.vm.findClass own = some m.cls)
    (w1 : (Cond.methodLink own index Jvm.Stand.acN).before A0 Z = true) (w2 : (Cond.native Jvm.Stand.acN).before A0 Z = true) (w3 : (Cond.static Jvm.Stand.acN).before A0 Z = true) (w4 : (Cond.initialized "java/lang/System").before A0 Z = true) (eT : T.heap = h)
    {k k' : ClassId} {ty : FieldType} {z z' sp dp nn : Int32} {f f' : Nat → Value} (A : qA Z h a k ty z f) (B : qA Z h b k' ty z' f') (hty : refKind ty = false)
    (h1 : ¬ sp < 0) (h2 : ¬ dp < 0) (h3 : ¬ nn < 0) (h4 : sp.toNatClampNeg + nn.toNatClampNeg ≤ z.toNatClampNeg) (h5 : dp.toNatClampNeg + nn.toNatClampNeg ≤ z'.toNatClampNeg) {n0 : Nat} (N : Fr n0 locs) (ge : n0 ≤ b)
    {g : JFrame} (hg : g.method = m) (hsize : g.locals.size = c.maxLocals) {rest : List Value} (hs : g.stack = .int nn :: .int dp :: .ref b :: .int sp :: .ref a :: rest) (hd : decode c.code g.pc = .ok (.invokestatic index, 3))
    (hf : 1 ≤ R.frames) {W : Nat} (hW : 2 * g.monitorRoom + (rest.map fun v => v.category).sum ≤ W) (hlo : W + (nativeFrameWords "java/lang/System" "arraycopy" 5 + 11) ≤ R.locals) :
    ∃ T' h' L, Stand p l e R s m args below meth c T' L cells slots ∧ T'.heap = h' ∧ Fr n0 L ∧ Keep h h' [b] ∧ qA Z h' b k' ty z' (own_cp f sp.toNatClampNeg f' dp.toNatClampNeg nn.toNatClampNeg) ∧
      ∀ target, Steps p.tables e below (T'.setTop { g with pc := g.pc + 3, stack := rest }) target → Steps p.tables e below (T.setTop g) target := by
  obtain ⟨T', h', L, X', e', N', K, V, st⟩ := cpA X hx hZ hown w1 w2 w3 w4 eT (own_arfArv A .null) (own_arfArv B .null) (Or.inl ⟨rfl, hty⟩) h1 h2 h3 h4 h5 rfl (by simp; exact h5) N ge hg hsize hs hd hf hW hlo
  refine ⟨T', h', L, X', e', N', K, own_arvArf V fun i hi => ?_, st⟩
  simp only [own_cp, List.getD_eq_getElem?_getD]
  by_cases c1 : i < dp.toNatClampNeg
  · rw [List.append_assoc, List.getElem?_append_left (by simp; omega)]
    simp [c1, hi, show ¬ dp.toNatClampNeg ≤ i by omega]
  · by_cases c2 : i < dp.toNatClampNeg + nn.toNatClampNeg
    · rw [List.append_assoc, List.getElem?_append_right (by simp; omega), List.getElem?_append_left (by simp; omega)]
      have hm : min dp.toNatClampNeg z'.toNatClampNeg = dp.toNatClampNeg := by omega
      simp only [List.length_take, List.length_map, List.length_range, hm]
      have e1 : i - dp.toNatClampNeg < nn.toNatClampNeg := by omega
      have e2 : sp.toNatClampNeg + (i - dp.toNatClampNeg) < z.toNatClampNeg := by omega
      simp [e1, e2, c2, show dp.toNatClampNeg ≤ i by omega]
    · rw [List.getElem?_append_right (by simp; omega)]
      have hm : min dp.toNatClampNeg z'.toNatClampNeg = dp.toNatClampNeg := by omega
      simp only [List.length_append, List.length_take, List.length_map, List.length_range, hm]
      rw [List.getElem?_drop]
      have e1 : dp.toNatClampNeg + nn.toNatClampNeg + (i - (dp.toNatClampNeg + nn.toNatClampNeg)) = i := by omega
      rw [e1]
      simp [hi, c2]
theorem own_cpI (f : Nat → Int32) (sp : Nat) (g : Nat → Int32) (dp n : Nat) : own_cp (fun i => Value.int (f i)) sp (fun i => .int (g i)) dp n = (fun i => .int (own_cp f sp g dp n i)) := by funext i; simp only [own_cp]; split <;> rfl
theorem own_clone (X : Stand p l e R s m args below meth c T locs cells slots) (hx : p.tables.exec = Jvm.exec) (hZ : Z.Warmed39 s.vm) {own ad : String} {index : Nat} (hown : s.vm.findClass own = some m.cls)
    (w1 : (Cond.methodLink own index ⟨ad, "clone", "()Ljava/lang/Object;"⟩).before A0 Z = true) (w2 : (Cond.sameMethod ad "java/lang/Object" "clone" "()Ljava/lang/Object;").before A0 Z = true) (w3 : (Cond.native ⟨"java/lang/Object", "clone", "()Ljava/lang/Object;"⟩).before A0 Z = true)
    (w4 : (Cond.instanceMethod ⟨"java/lang/Object", "clone", "()Ljava/lang/Object;"⟩).before A0 Z = true) (w5 : (Cond.selects ad ⟨ad, "clone", "()Ljava/lang/Object;"⟩ ⟨"java/lang/Object", "clone", "()Ljava/lang/Object;"⟩).before A0 Z = true) (w6 : (Cond.castable ad "java/lang/Cloneable").before A0 Z = true)
    (eT : T.heap = h) {k : ClassId} {ty : FieldType} {z : Int32} {f : Nat → Value} (F : qA Z h a k ty z f) (E : Exa Z h a ad) {g : JFrame} (hg : g.method = m) (hsize : g.locals.size = c.maxLocals) {rest : List Value} (hst : g.stack = .ref a :: rest) (hd : decode c.code g.pc = .ok (.invokevirtual index, 3))
    (hf : 1 ≤ R.frames) {W cap : Nat} (hW : 2 * g.monitorRoom + (rest.map fun v => v.category).sum ≤ W) (hl : W + 14 ≤ R.locals) (hcap : z.toNatClampNeg ≤ cap) (hc : cells + 1 ≤ R.cells) (hsl : slots + cap ≤ R.slots) :
    ∃ T' h', Stand p l e R s m args below meth c T' locs (cells + 1) (slots + cap) ∧ T'.heap = h' ∧ Ext h h' ∧ qA Z h' h.size k ty z f ∧ Exa Z h' h.size ad ∧
      ∀ target, Steps p.tables e below (T'.setTop { g with pc := g.pc + 3, stack := .ref h.size :: rest }) target → Steps p.tables e below (T.setTop g) target := by
  obtain ⟨T', h', X', e', ex, A', E', st⟩ := cloneH X hx hZ hown w1 w2 w3 w4 w5 w6 eT (own_arfArv F .null).arh E hg hsize hst hd hf hW hl hcap hc hsl
  refine ⟨T', h', X', e', ex, own_arvArf (vs := (List.range z.toNatClampNeg).map f) (dv := .null) A' fun i hi => ?_, E', st⟩
  simp [List.getD_eq_getElem?_getD, hi]
end OwnNat
section OwnExc
variable {p : Program} {l : Launch} {e : Env} {R : Room} {s : State} {m : MethodId} {args : Array Value} {below : List Frame} {Z : State} {a0 : Array Value} {EL : List (String × Nat)} {h : Heap} {vm0 : Vm} {C : String} {y y' : MethodName}
theorem own_notFace (hsel : (Cond.selects C y' y').before args s = true) (hc : y'.cls = y.cls) : NotFace s y := fun r0 h0 => by
  obtain ⟨c2, r2, m2, q1, q2, q3, q4, kP, hkP, hkPi⟩ := Cond.selects_spec hsel
  have e1 := findClass_of_methodNamed h0
  have e2 := findClass_of_methodNamed q3
  rw [hc, e1] at e2
  exact ⟨kP, by rw [Option.some.inj e2]; exact hkP, hkPi⟩
theorem own_selPriv2 (hZ : Z.Warmed39 s.vm) (wsel : (Cond.selects C y y).before a0 Z = true) (wp : (Cond.privateMethod y).before a0 Z = true) (wm : (Cond.instanceMethod y).before a0 Z = true) (hy : y.cls ≠ "java/lang/invoke/MethodHandle" ∧ y.cls ≠ "java/lang/invoke/VarHandle") : (Cond.selects y.cls y y).before args s = true := by
  have ws : (Cond.selects C y y).before args s = true := mvT hZ wsel
  obtain ⟨c2, r2, m2, q1, q2, q3, q4, kP, hkP, hkPi⟩ := Cond.selects_spec ws
  exact selects_self_of_private (findClass_of_methodNamed q3) hkP hkPi (Cond.privateMethod_at (mvP hZ wp (args := args))) (mvT hZ wm) hy
theorem own_same (wm : (Cond.instanceMethod y).before a0 Z = true) (ws : (Cond.selects C y' y').before a0 Z = true) (hc : y'.cls = y.cls) (hy : y.cls ≠ "java/lang/invoke/MethodHandle" ∧ y.cls ≠ "java/lang/invoke/VarHandle") : (Cond.sameMethod y.cls y.cls y.name y.desc).before a0 Z = true := by
  obtain ⟨mk, methM, hnamed, hmethM, -, -⟩ := Cond.instanceMethod_spec wm
  obtain ⟨kr, hkr, hni⟩ := own_notFace ws hc mk hnamed
  have h1 := findClass_of_methodNamed hnamed
  have h2 := State.methodFound?_of_named hnamed hy
  have h3 : Z.methodNamed? ⟨y.cls, y.name, y.desc⟩ = some mk := hnamed
  simp [Cond.before, Cond.holds, Cond.value, h1, h2, h3, hkr, hni]
end OwnExc
theorem own_ishl0 (x : Int32) : x <<< ((0 : Int32) &&& 31) = x := by
  have e : ((0 : Int32) &&& 31) = 0 := rfl
  rw [e]
  exact Int32.shiftLeft_zero
theorem own_ishr0 (x : Int32) : x >>> ((0 : Int32) &&& 31) = x := by
  have e : ((0 : Int32) &&& 31) = 0 := rfl
  rw [e]
  exact Int32.shiftRight_zero
theorem own_0iadd (x : Int32) : (0 : Int32) + x = x := Int32.zero_add x
section OwnThr
open Jvm.Free.Exc Jvm.Free.Str LibCode.Throwable
variable {p : Program} {l : Launch} {e : Env} {R : Room} {s : State} {m : MethodId} {args : Array Value} {below : List Frame} {meth : Method} {c : Code} {T U : State} {locs L : List Loc} {cells slots : Nat} {Z : State} {a0 : Array Value} {h h' : Heap}
/-- what the walk through Throwable.fillInStackTrace asks of the tables, on a receiver of class rc -/
def own_thrA (rc : String) : List Cond := [
  .initialized tN, .superclass tN "java/lang/Object", .instanceMethod tFill, .codeSync tFill Fill.code 1 (some (.object tN)), .instanceMethod tFill0, .native tFill0,
  .instanceMethod oInit, .code oInit ⟨#[0xb1]⟩ 1 none, .methodLink tN 1 oInit, .methodLink tN 27 tFill, .methodLink tN 202 tFill0,
  .fieldLink tN 7 tN "cause" thD, .fieldLink tN 17 tN "stackTrace" steD, .fieldLink tN 24 tN "suppressedExceptions" listD,
  .fieldLink tN 13 tN "UNASSIGNED_STACK" steD, .laysStatic tN "UNASSIGNED_STACK" steD, .fieldLink tN 20 tN "SUPPRESSED_SENTINEL" listD, .laysStatic tN "SUPPRESSED_SENTINEL" listD,
  .declares tFill, .selects rc tFill0 tFill0, .selects rc tFill tFill,
  .lays rc tN "cause" thD, .lays rc tN "stackTrace" steD, .lays rc tN "suppressedExceptions" listD, .lays rc tN "backtrace" obD, .lays rc tN "depth" "I",
  .fieldLink tN 198 tN "backtrace" obD, .arrayOver (.object "java/lang/Object"), .soleField tN "backtrace", .soleField tN "depth", .lays rc tN "detailMessage" msgD]
theorem own_arrRef {t : Term} {ty : FieldType} (h : (Cond.arrayOf t ty).value args s none s [] = some true) : ∃ b, t.eval args s none [] s = some (.ref b) := by
  cases e : t.eval args s none [] s with
  | none => simp [Cond.value, e] at h
  | some v => cases v with
    | ref b => exact ⟨b, rfl⟩
    | _ => simp [Cond.value, e] at h
theorem own_thrOk (rc : String) : (own_thrA rc).all xOk = true := rfl
theorem own_params {x : MethodName} {sg : MethodDescriptor} (q : parseMethodDescriptor x.desc = some sg) {ps : List FieldType} (k : (parseMethodDescriptor x.desc).map (·.parameters) = some ps) : sg.parameters = ps := by
  rw [q] at k; exact Option.some.inj k
set_option maxHeartbeats 4000000 in
theorem own_TC {pl : Platform} {rc : String} (howns : pl.frameOwnsMonitors = true) (hfin : pl.finalization = false) (hpl : pl.magicAccessors = ({} : Platform).magicAccessors) (W : ∀ d ∈ own_thrA rc, d.before args s = true) :
    ∃ T : ThrowableC, T.Links pl s ∧ s.vm.findClass tN = some T.cT ∧ s.methodNamed? tFill = some T.fill ∧ s.methodNamed? tFill0 = some T.fill0 ∧
      s.fieldFound? tN "stackTrace" steD = some (T.cT, T.kT, T.i17, T.fStack) ∧ s.fieldFound? tN "UNASSIGNED_STACK" steD = some (T.cT, T.kT, T.i13, T.fUnassigned) ∧ T.fStack.type = .array (.object "java/lang/StackTraceElement") := by
  have w : ∀ (i : Nat) {d : Cond}, (own_thrA rc)[i]? = some d → d.holds args s none s [] = true := fun i _ q => W _ (List.mem_of_getElem? q)
  obtain ⟨⟨c, i0⟩, nat0, n1, n2, n3, n4, n5, n6⟩ := Cond.native_spec (w 5 rfl)
  have hc : s.vm.findClass tN = some c := findClass_of_methodNamed n1
  obtain ⟨k, hk, kn⟩ := Vm.findClass_spec hc
  obtain ⟨_, _, _, _, k1, -, -, -, -, k2⟩ := Cond.superclass_spec hc (w 1 rfl)
  cases hk.symm.trans k1
  obtain ⟨_, _, a1, a2, a3, a4, a5, a6, a7⟩ := Cond.ownMethod (x := tFill0) hc hk (w 4 rfl)
  cases n1.symm.trans a1
  cases n2.symm.trans a2
  obtain ⟨fi, fm, b1, b2, b3, b4, b5, -, -⟩ := Cond.ownMethod (x := tFill) hc hk (w 2 rfl)
  obtain ⟨_, fc, c1, c2, c3, c4, c5, c6, -, c7⟩ := Cond.codeSync_spec b1 (w 3 rfl)
  cases b2.symm.trans c1
  obtain ⟨om, omt, d1, d2, d3, d4⟩ := Cond.instanceMethod_spec (w 6 rfl)
  obtain ⟨_, oc, e1, e2, e3, e4, -, e5, -, e6⟩ := Cond.code_spec d1 (w 7 rfl)
  cases d2.symm.trans e1
  obtain ⟨ok, o1, o2⟩ := Vm.findClass_spec (findClass_of_methodNamed d1)
  obtain ⟨o3, o4⟩ := name_of_methodNamed d1 d2
  obtain ⟨x1, y1, cf, l1, r1, f1, p1⟩ := Cond.linkedMethod hc hk d1 (w 8 rfl) pl hpl
  obtain ⟨x2, y2, _, l2, r2, f2, p2⟩ := Cond.linkedMethod hc hk b1 (w 9 rfl) pl hpl
  obtain ⟨x3, y3, _, l3, r3, f3, p3⟩ := Cond.linkedMethod hc hk n1 (w 10 rfl) pl hpl
  cases f1.symm.trans f2
  cases f1.symm.trans f3
  obtain ⟨q1, j1, g1, h11, h12, h13, h14, h15, -, -, -⟩ := Cond.ownField (t := .object tN) hc hk (by decide +kernel) (w 11 rfl) (w 21 rfl) pl hpl
  obtain ⟨q2, j2, g2, h21, h22, h23, h24, h25, h26, h27, h28⟩ := Cond.ownField (t := .array (.object "java/lang/StackTraceElement")) hc hk (by decide +kernel) (w 12 rfl) (w 22 rfl) pl hpl
  obtain ⟨q3, j3, g3, h31, h32, h33, h34, h35, h36, -, h38⟩ := Cond.ownField (t := .object "java/util/List") hc hk (by decide +kernel) (w 13 rfl) (w 23 rfl) pl hpl
  obtain ⟨q4, j4, g4, aS, _, h41, h42, h43, h44, -, -, h45, -, -, -, -, h46⟩ := Cond.ownStatic (t := .array (.object "java/lang/StackTraceElement")) hc hk (by decide +kernel) (w 14 rfl) (w 15 rfl) pl hpl
  obtain ⟨q5, j5, g5, _, _, h51, h52, h53, h54, -⟩ := Cond.ownStatic (t := .object "java/util/List") hc hk (by decide +kernel) (w 16 rfl) (w 17 rfl) pl hpl
  obtain ⟨cX, kX, _, _, _, _, v1, v2, -⟩ := Cond.lays_spec (w 22 rfl)
  obtain ⟨-, _, s1, s2⟩ := Cond.laysAt v1 v2 h28 (w 22 rfl)
  obtain ⟨-, _, s3, s4⟩ := Cond.laysAt v1 v2 h38 (w 23 rfl)
  have apart : g2.slot ≠ g3.slot := Cond.laysApart s1 s3 s2 s4 (by rw [h26, h36]; decide)
  have op : omt.sig.parameters = [] := own_params (x := oInit) e6 (by decide +kernel)
  refine ⟨{ cT := c, kT := k, cO := c, aS := aS, fillIdx := fi, fill0Idx := i0, initSIdx := fi, obj := om, kObj := ok, methFill := fm, methFill0 := nat0, methInitS := fm, methObj := omt, codeFill := fc, codeInitS := fc, codeObj := oc, fBack := g1, fDepth := g1, fStack := g2, fCause := g1, fSupp := g3, fMsg := g1, fUnassigned := g4, fSentinel := g5, cfT := cf, ci1 := x1, n1 := y1, ci27 := x2, n27 := y2, ci202 := x3, n202 := y3, ci7 := q1, i7 := j1, ci13 := q4, i13 := j4, ci17 := q2, i17 := j2, ci20 := q5, i20 := j5, ci24 := q3, i24 := j3 }, ?_, hc, b1, n1, h28, h46, h27⟩
  constructor <;> (try dsimp only) <;> first | assumption | exact Vm.findClass_boot hc hk | exact Cond.initialized_spec hc hk (w 0 rfl) | exact own_params (x := tFill) c7 (by decide +kernel) | exact own_params (x := tFill0) n6 (by decide +kernel) | (rw [o4]; exact lookupSpecial_of_named d1 d2 d3) | (rw [op]; rfl)
set_option maxHeartbeats 8000000 in
/-- 'invokevirtual 27' in Throwable's constructor: fillInStackTrace() on an object that the walk has made -/
theorem own_fillL (X : Stand p l e R s m args below meth c T locs cells slots) (hx : p.tables.exec = Jvm.exec) (hl : l.stackTraces = true) (hZ : Z.Warmed39 s.vm) (hown : s.vm.findClass tN = some m.cls) {rc : String} {n : Nat} (wA : ∀ d ∈ own_thrA rc, d.before a0 Z = true) (wi : (Cond.instantiable rc n).before a0 Z = true)
    (hT0 : ThS Z s.heap) (hT : ThS Z h) (hTK : s.vm.MethodsKnown) (hBelow : s.vm.FramesKnown below) (eT : T.heap = h) {a u : Addr} (E : Exa Z h a rc) (N : Unt h a) (B : Fld Z h a tN "backtrace" obD .null) (F : Fld Z h a tN "stackTrace" steD (.ref u)) (S : Sta Z h tN "UNASSIGNED_STACK" steD (.ref u))
    {g : JFrame} (hg : g.method = m) (hsize : g.locals.size = c.maxLocals) {rest : List Value} (hs : g.stack = .ref a :: rest) (hd : decode c.code g.pc = .ok (.invokevirtual 27, 3))
    (hf : 3 ≤ R.frames) (hlo : 2 * g.monitorRoom + (rest.map fun v => v.category).sum + 42 ≤ R.locals) (hc : cells + 1 ≤ R.cells) (hsl : slots + 2752 ≤ R.slots) :
    ∃ (T' : State) (h' : Heap), Stand p l e R s m args below meth c T' (locs ++ sixLocs Z a) (cells + 1) (slots + 2752) ∧ T'.heap = h' ∧ Kp Z h h' a ∧ Exa Z h' a rc ∧ Unt h' a ∧ ThS Z h' ∧ (∀ v, Fld Z h a tN "detailMessage" msgD v → Fld Z h' a tN "detailMessage" msgD v) ∧
      Steps p.tables e below (T.setTop g) (T'.setTop { g with pc := g.pc + 3, stack := .ref a :: rest }) := by
  have W : ∀ d ∈ own_thrA rc, d.before args s = true := fun d q => mvX hT0 hZ (List.all_eq_true.mp (own_thrOk rc) d q) (wA d q)
  have w : ∀ (i : Nat) {d : Cond}, (own_thrA rc)[i]? = some d → d.before args s = true := fun i _ q => W _ (List.mem_of_getElem? q)
  have hpl : e.platform.magicAccessors = ({} : Platform).magicAccessors := by rw [X.admits.platform]
  have htr : e.platform.stackTraces = true := by rw [X.admits.platform]; exact hl
  obtain ⟨TC, K, t1, t2, t3, t4, t5, t6⟩ := own_TC (pl := e.platform) (by rw [X.admits.platform]) (by rw [X.admits.platform]) hpl W
  have hal := hZ.alike
  obtain ⟨cell, kc, e1, e2, e3, -, e5⟩ := id E
  obtain ⟨_, u1, u2, u3⟩ := id N
  cases e1.symm.trans u1
  obtain ⟨_, _, i1, i2, i3, -⟩ := Cond.instantiable_spec wi
  cases e2.symm.trans i1
  cases e3.symm.trans i2
  obtain ⟨kX, x1, x2⟩ := hal.2.2 _ _ e3
  have fnd : s.vm.findClass rc = some cell.cls := by rw [hal.findClass]; exact e2
  have ord : kX.kind = .ordinary := by rw [x2]; exact i3
  have siz : cell.slots.size = kX.instanceTypes.size := by rw [x2]; exact e5 i3
  have sel0 : selectMethod e.platform s.vm cell.cls TC.fill0 = .method TC.fill0 := by
    obtain ⟨_, _, _, q1, q2, q3, q4, -⟩ := Cond.selects_spec (w 19 rfl)
    cases q1.symm.trans fnd
    cases q2.symm.trans (State.methodFound?_of_named t3 (by decide))
    cases q3.symm.trans t3
    rw [Launch.admits_selectMethod X.admits]; exact q4
  obtain ⟨cf, i, k, f, sa, cS, s1, s2, s3, s4, s5, s6, s7⟩ := S
  obtain ⟨k', y1, y2⟩ := State.fieldFound?_setVm (s := Z) hal s1
  cases (show s.fieldFound? tN "UNASSIGNED_STACK" steD = _ from y1).symm.trans t5
  obtain rfl : sa = TC.aS := Option.some.inj ((show TC.kT.statics = some sa by rw [y2]; exact s4).symm.trans K.statics)
  have hne : TC.aS ≠ a := fun q => by rw [q, e1] at s5; cases s5; rw [u2] at s6; cases s6
  obtain ⟨c1, j1, fB, b1, b2, b3, b4, -, b5, b6, b7⟩ := Cond.ownField (t := .object "java/lang/Object") t1 K.cls (by decide +kernel) (w 26 rfl) (w 24 rfl) e.platform hpl
  obtain ⟨_, _, _, _, jD, fD, -, -, d3, d4, -⟩ := Cond.lays_spec (w 25 rfl)
  cases (Cond.lays_declared (w 25 rfl) d3).symm.trans t1
  obtain ⟨d5, d6⟩ := State.fieldFound?_spec d3
  cases d5.symm.trans K.cls
  obtain ⟨d7, d8⟩ := State.fieldFound?_type d3 (t := .int) (by decide +kernel)
  obtain ⟨cO, aO, kO, -, -, o1, o2, o3⟩ := Cond.arrayOver_spec (w 27 rfl)
  have slot : ∀ {nn d : String} {v : Value} {fx : Field} {cx ix : Nat} {kx : Class}, Fld Z h a tN nn d v → s.fieldFound? tN nn d = some (cx, kx, ix, fx) → cell.slots[fx.slot]? = some v := fun {nn d v fx cx ix kx} Fl hfx => by
    obtain ⟨c2, cf2, k2, i2, f2, z1, z2, -, -, -, -, z7⟩ := Fl
    cases e1.symm.trans z1
    obtain ⟨k3, z8, -⟩ := State.fieldFound?_setVm (s := Z) hal z2
    cases (show s.fieldFound? tN nn d = _ from z8).symm.trans hfx
    exact z7
  have tk : ∀ {fx : Field} {v : Value}, kX.instanceTypes[fx.slot]? = some fx.type → fits fx.type v = true → Jvm.Takes s cell fx v := fun {fx v} q1 q2 => by
    obtain ⟨z1, z2⟩ := Takes.of_laid (v := v) x1 ord q1 q2
    exact ⟨by rw [siz]; simpa using z1, by rw [u2]; exact z2⟩
  have vS := w 20 rfl
  obtain ⟨v6, vm6, ⟨T6, L6, c6, n6⟩, hW6, X6, ⟨hv6, vm', lines, hlen, -, hU, hL6, hc6, hn6⟩, come⟩ := X.virtualBack hx (own := tN) (C := rc) (index := 27) (y := tFill) (z := tFill) hown (w 9 rfl) (w 18 rfl) (notFace_of_selects vS) vS (w 2 rfl) (by decide)
    (fillPays (l := l) (W := 2 * g.monitorRoom + (rest.map fun v => v.category).sum) hx htr TC K t2 (u0 := ⟨.ref u, rfl⟩) (by simp) (self := a) (cell := cell) (cellS := cS) (fun _ => by rw [u2]; simp) (by rw [u2]; simp) (by rw [u3]) (by rw [u3]) (slot F t4) sel0 hne (fun q => by rw [q] at s6; cases s6) s7
      (tk (Cond.laysAt fnd x1 t4 (w 22 rfl)).1 (by rw [t6]; rfl)) ⟨{ ci198 := c1, i198 := j1, fBack := fB }, ⟨b1, b2, b3, b4⟩, slot B b7⟩ hTK hBelow t1 o3 o1 o2 (Cond.soleField_find t1 K.cls (w 28 rfl) b3 b5 b4) (Cond.soleField_find t1 K.cls (w 29 rfl) d6 d7 d4)
      (fun _ => tk (Cond.laysAt fnd x1 b7 (w 24 rfl)).1 (by rw [b6]; rfl)) (fun _ => tk (Cond.laysAt fnd x1 d3 (w 25 rfl)).1 (by rw [d8]; rfl)) (by omega) (by omega))
    (b := a) (cB := cell.cls) fnd ⟨cell, by rw [eT]; exact e1, rfl, by rw [u2]; rfl⟩ (g := g) hg hsize (Steps.refl _) (argsL := []) (rest := rest)
    (fun sig q => by rw [show parseMethodDescriptor tFill.desc = some ⟨[], some (.object tN)⟩ from by decide +kernel] at q; rw [← Option.some.inj q]; rfl) hs (Nat.le_refl _) hd
    (fun vmx hWx => ⟨rfl, hc, hsl, by show T.heap[a]? = _; rw [eT]; exact e1, by show T.heap[_]? = _; rw [eT]; exact s5⟩)
  dsimp only [Pt.U, Pt.locs, Pt.cells, Pt.slots] at X6 hU hL6 hc6 hn6 come
  subst hv6 hL6 hc6 hn6
  have six : ∀ x ∈ [(⟨a, fB.slot⟩ : Loc), ⟨a, fD.slot⟩, ⟨a, TC.fStack.slot⟩], Six s a x := fun x q => by
    simp only [List.mem_cons, List.not_mem_nil, or_false] at q
    rcases q with q | q | q
    · exact ⟨("backtrace", obD), _, by simp [sixNames], ⟨_, _, _, b7⟩, q⟩
    · exact ⟨("depth", "I"), _, by simp [sixNames], ⟨_, _, _, d3⟩, q⟩
    · exact ⟨("stackTrace", steD), _, by simp [sixNames], ⟨_, _, _, t4⟩, q⟩
  have kept : Jvm.Free.Exc.Kept T T6 [(⟨a, fB.slot⟩ : Loc), ⟨a, fD.slot⟩, ⟨a, TC.fStack.slot⟩] := fun y cy hy => by
    have lt : y < T.heap.size := (Array.getElem?_eq_some_iff.mp hy).1
    have la : a < T.heap.size := by rw [eT]; exact (Array.getElem?_eq_some_iff.mp e1).1
    by_cases q : y = a
    · subst q
      rw [eT] at hy; cases e1.symm.trans hy
      refine ⟨_, by rw [hU]; exact heapAt_setCell_self _ (by show y < (T.heap.push _).size; rw [Array.size_push]; exact Nat.lt_succ_of_lt lt), rfl, by simp [filledOn, Cell.setSlot], fun i hi => ?_⟩
      simp only [List.mem_cons, Loc.mk.injEq, true_and, List.not_mem_nil, or_false, not_or] at hi
      simp [filledOn, Cell.setSlot, Array.getElem?_setIfInBounds, Ne.symm hi.1, Ne.symm hi.2.1, Ne.symm hi.2.2]
    · refine ⟨cy, ?_, rfl, rfl, fun _ _ => rfl⟩
      rw [hU, State.heap_setCell_other (Ne.symm q)]
      show (T.heap.push _)[y]? = _
      rw [Array.getElem?_push_lt lt, ← hy, Array.getElem?_eq_getElem lt]
  have kp := kp_of hZ eT six kept
  refine ⟨T6, T6.heap, (wider X6 hZ six).more (Nat.le_refl _) (Nat.add_le_add_left (traceHolder_size_le _ hlen) _), rfl, kp, E.kp kp, N.kp kp, hT.kp kp N, fun v Fl => ?_, come⟩
  obtain ⟨c2, cf2, k2, i2, f2, z1, z2, z3, z4, z5, z6, z7⟩ := Fl
  obtain ⟨c', p1, p2, -, p4⟩ := kept a c2 (by rw [eT]; exact z1)
  obtain ⟨k3, z8, -⟩ := State.fieldFound?_setVm (s := Z) hal z2
  have z9 : s.fieldFound? tN "detailMessage" msgD = some (cf2, k3, i2, f2) := z8
  have nm := (State.fieldFound?_type z9 (t := .object "java/lang/String") (by decide +kernel)).1
  have nS := (State.fieldFound?_type t4 (t := .array (.object "java/lang/StackTraceElement")) (by decide +kernel)).1
  obtain ⟨-, _, m1, m2⟩ := Cond.laysAt fnd x1 z9 (w 30 rfl)
  obtain ⟨-, _, m3, m4⟩ := Cond.laysAt fnd x1 b7 (w 24 rfl)
  obtain ⟨-, _, m5, m6⟩ := Cond.laysAt fnd x1 d3 (w 25 rfl)
  obtain ⟨-, _, m7, m8⟩ := Cond.laysAt fnd x1 t4 (w 22 rfl)
  have y3 := Cond.laysApart m1 m3 m2 m4 (by rw [nm, b5]; decide)
  have y4 := Cond.laysApart m1 m5 m2 m6 (by rw [nm, d7]; decide)
  have y5 := Cond.laysApart m1 m7 m2 m8 (by rw [nm, nS]; decide)
  refine ⟨c', cf2, k2, i2, f2, p1, z2, z3, by rw [p2]; exact z4, by rw [p2]; exact z5, by rw [p2]; exact z6, ?_⟩
  rw [p4 f2.slot (by simp [y3, y4, y5])]; exact z7
end OwnThr
def own_ix (i : Int) : Int32 := if i ≤ 5 then Int32.ofInt i else (Int8.ofInt i).toInt32
def own_fpc : Nat → List (Int × Int) → Nat
  | pc, [] => pc
  | pc, (i, _) :: r => if i ≤ 5 then own_fpc (pc + 5) r else own_fpc (pc + 6) r
/-- dup; push i; bipush v; castore: over and over -/
def own_fchk (code : ByteArray) (n : Int32) : Nat → List (Int × Int) → Bool
  | _, [] => true
  | pc, (i, v) :: r => decide (decode code pc = .ok (.dup, 1)) && (decide (¬ own_ix i < 0) && (decide ((own_ix i).toNatClampNeg < n.toNatClampNeg) && (if i ≤ 5 then decide (decode code (pc + 1) = .ok (.iconst i, 1)) && (decide (decode code (pc + 2) = .ok (.bipush v, 2)) && (decide (decode code (pc + 4) = .ok (.castore, 1)) && own_fchk code n (pc + 5) r)) else decide (decode code (pc + 1) = .ok (.bipush i, 2)) && (decide (decode code (pc + 3) = .ok (.bipush v, 2)) && (decide (decode code (pc + 5) = .ok (.castore, 1)) && own_fchk code n (pc + 6) r)))))
def own_ff (f : Nat → Int32) : List (Int × Int) → Nat → Int32
  | [] => f
  | (i, v) :: r => own_ff (qu f (own_ix i).toNatClampNeg (nar .char (Int8.ofInt v).toInt32)) r
section OwnFill
variable {p : Program} {l : Launch} {e : Env} {R : Room} {s : State} {m : MethodId} {args : Array Value} {below : List Frame} {meth : Method} {c : Code} {cells slots : Nat} {Z : State} {b : Addr} {k : ClassId} {n : Int32} {n0 : Nat} {Ls : Array Slot} {rest : List Value}
theorem own_fill (hx : p.tables.exec = Jvm.exec) (hZ : Z.Warmed39 s.vm) (ge : n0 ≤ b) : ∀ (qs : List (Int × Int)) (pc : Nat) (T : State) (locs : List Loc) (h : Heap) (f : Nat → Int32), Stand p l e R s m args below meth c T locs cells slots → T.heap = h → qA Z h b k .char n (fun i => .int (f i)) → Fr n0 locs → own_fchk c.code n pc qs = true →
    ∃ T' h' L', Stand p l e R s m args below meth c T' L' cells slots ∧ T'.heap = h' ∧ Fr n0 L' ∧ Keep h h' [b] ∧ qA Z h' b k .char n (fun i => .int (own_ff f qs i)) ∧ ∀ t, Steps p.tables e below (T'.setTop (mkF m (own_fpc pc qs) Ls (.ref b :: rest))) t → Steps p.tables e below (T.setTop (mkF m pc Ls (.ref b :: rest))) t := by
  intro qs
  induction qs with
  | nil => exact fun pc T locs h f X eT V N _ => ⟨T, h, locs, X, eT, N, Keep.refl h [b], V, fun t q => q⟩
  | cons q r ih =>
    obtain ⟨i, v⟩ := q
    intro pc T locs h f X eT V N ck
    obtain ⟨cl, Ar, qq, S, M, H, G⟩ := id V
    by_cases hi : i ≤ 5
    · simp only [own_fchk, hi, if_true, Bool.and_eq_true, decide_eq_true_eq] at ck
      obtain ⟨c1, c5, c6, c2, c3, c4, ck⟩ := ck
      have ei : own_ix i = Int32.ofInt i := if_pos hi
      have hin : ¬ (own_ix i < 0 ∨ cl.slots.size ≤ (own_ix i).toNatClampNeg) := by
        rw [S]; intro z
        rcases z with z | z
        · exact c5 z
        · omega
      obtain ⟨T1, h1, X1, e1, W, st⟩ := stC X hx hZ eT Ar (j := own_ix i) (x := (Int8.ofInt v).toInt32) hin (g := mkF m (pc + 4) Ls (.int (Int8.ofInt v).toInt32 :: .int (own_ix i) :: .ref b :: .ref b :: rest)) rfl rfl c4
      have V1 : qA Z h1 b k .char n (fun j => .int (qu f (own_ix i).toNatClampNeg (nar .char (Int8.ofInt v).toInt32) j)) := own_arfSetI Ar qq S M H G (fits_nar_char _) W
      obtain ⟨T2, h2, L2, X2, e2, N2, K2, V2, st2⟩ := ih (pc + 5) T1 _ h1 _ X1 e1 V1 (Fr.snoc X1 N ge) ck
      refine ⟨T2, h2, L2, X2, e2, N2, ((Keep.refl h [b]).wr W (Or.inl (List.mem_of_getElem? (i := 0) rfl))).trans K2 (allS (Or.inl (List.mem_of_getElem? (i := 0) rfl)) all0), V2, fun t q => ?_⟩
      have ep : own_fpc pc ((i, v) :: r) = own_fpc (pc + 5) r := if_pos hi
      rw [ep] at q
      refine XS.dup X.here hx rfl c1 rfl rfl ?_
      refine XS.iconst X.here hx rfl c2 ?_
      refine XS.bipush X.here hx rfl c3 ?_
      have h9 := st t (st2 t q)
      rw [ei] at h9
      exact h9
    · simp only [own_fchk, hi, if_false, Bool.and_eq_true, decide_eq_true_eq] at ck
      obtain ⟨c1, c5, c6, c2, c3, c4, ck⟩ := ck
      have ei : own_ix i = (Int8.ofInt i).toInt32 := if_neg hi
      have hin : ¬ (own_ix i < 0 ∨ cl.slots.size ≤ (own_ix i).toNatClampNeg) := by
        rw [S]; intro z
        rcases z with z | z
        · exact c5 z
        · omega
      obtain ⟨T1, h1, X1, e1, W, st⟩ := stC X hx hZ eT Ar (j := own_ix i) (x := (Int8.ofInt v).toInt32) hin (g := mkF m (pc + 5) Ls (.int (Int8.ofInt v).toInt32 :: .int (own_ix i) :: .ref b :: .ref b :: rest)) rfl rfl c4
      have V1 : qA Z h1 b k .char n (fun j => .int (qu f (own_ix i).toNatClampNeg (nar .char (Int8.ofInt v).toInt32) j)) := own_arfSetI Ar qq S M H G (fits_nar_char _) W
      obtain ⟨T2, h2, L2, X2, e2, N2, K2, V2, st2⟩ := ih (pc + 6) T1 _ h1 _ X1 e1 V1 (Fr.snoc X1 N ge) ck
      refine ⟨T2, h2, L2, X2, e2, N2, ((Keep.refl h [b]).wr W (Or.inl (List.mem_of_getElem? (i := 0) rfl))).trans K2 (allS (Or.inl (List.mem_of_getElem? (i := 0) rfl)) all0), V2, fun t q => ?_⟩
      have ep : own_fpc pc ((i, v) :: r) = own_fpc (pc + 6) r := if_neg hi
      rw [ep] at q
      refine XS.dup X.here hx rfl c1 rfl rfl ?_
      refine XS.bipush X.here hx rfl c2 ?_
      refine XS.bipush X.here hx rfl c3 ?_
      have h9 := st t (st2 t q)
      rw [ei] at h9
      exact h9
end OwnFill
theorem own_tn (z : Int32) (h : 0 ≤ z.toInt) : (z.toNatClampNeg : Int) = z.toInt := Int.toNat_of_nonneg h
theorem own_sh1 (z : Int32) (h0 : 0 ≤ z.toInt) (h1 : z.toInt ≤ 1000) : (z <<< ((1 : Int32) &&& 31)).toInt = 2 * z.toInt := by
  have h := c_ishl z 1 1 (by decide)
  have r := rng32 (z <<< ((1 : Int32) &&& 31))
  omega
theorem own_add1 (z : Int32) (h0 : 0 ≤ z.toInt) (h1 : z.toInt ≤ 1000) : (z + (1 : Int32)).toInt = z.toInt + 1 := by
  have h := c_iadd z 1
  have r := rng32 (z + (1 : Int32))
  have e : (1 : Int32).toInt = 1 := rfl
  omega
theorem own_in0 {z n : Int32} (h0 : 0 ≤ z.toInt) (h : z.toInt < n.toInt) : (¬ z < 0) ∧ z < n := by
  rw [Int32.lt_iff_toInt_lt, Int32.lt_iff_toInt_lt]
  have e : (0 : Int32).toInt = 0 := rfl
  omega
def own_u16 (f g : Nat → Int32) (n : Nat) : Prop := ∀ j, j < n → g (2 * j) = nar .byte ((f j).toInt8.toInt32) ∧ g (2 * j + 1) = nar .byte (((f j) >>> ((8 : Int32) &&& 31)).toInt8.toInt32)
def own_tbI (f : Nat → Int32) (p2 z1 z2 : Int32) (g : Nat → Int32) : Prop := z1 = z2 ∧ 0 ≤ z2.toInt ∧ z2.toInt ≤ p2.toInt ∧ p2.toInt ≤ 48 ∧ own_u16 f g z2.toNatClampNeg
theorem own_upd2 (g : Nat → Int32) (a b : Int32) (n j : Nat) (h : j < n) : qu (qu g (2 * n) a) (2 * n + 1) b (2 * j) = g (2 * j) ∧ qu (qu g (2 * n) a) (2 * n + 1) b (2 * j + 1) = g (2 * j + 1) := by
  have h1 : ¬ 2 * j = 2 * n + 1 := by omega
  have h2 : ¬ 2 * j = 2 * n := by omega
  have h3 : ¬ 2 * j + 1 = 2 * n + 1 := by omega
  have h4 : ¬ 2 * j + 1 = 2 * n := by omega
  simp only [qu, h1, h2, h3, h4, if_false, and_self]
theorem own_upd3 (g : Nat → Int32) (a b : Int32) (n : Nat) : qu (qu g (2 * n) a) (2 * n + 1) b (2 * n) = a ∧ qu (qu g (2 * n) a) (2 * n + 1) b (2 * n + 1) = b := by
  have h1 : ¬ 2 * n = 2 * n + 1 := by omega
  simp only [qu, h1, if_false, if_true, and_self]
section OwnTb
variable {f g : Nat → Int32} {p2 z1 z2 : Int32}
theorem own_tbS (h : 0 ≤ p2.toInt ∧ p2.toInt ≤ 48) : own_tbI f p2 0 0 (fun _ => (0 : Int32)) := ⟨rfl, by decide, h.1, h.2, fun j hj => absurd hj (Nat.not_lt_zero _)⟩
theorem own_tbB (h : own_tbI f p2 z1 z2 g) (c : z2 < p2) : own_tbI f p2 (z1 + (1 : Int32)) (z2 + (1 : Int32)) (qu (qu g ((z2 <<< ((1 : Int32) &&& 31))).toNatClampNeg (nar .byte ((f (z1).toNatClampNeg).toInt8.toInt32))) (((z2 <<< ((1 : Int32) &&& 31)) + (1 : Int32))).toNatClampNeg (nar .byte (((f (z1).toNatClampNeg) >>> ((8 : Int32) &&& 31)).toInt8.toInt32))) := by
  obtain ⟨rfl, h0, h1, h2, h3⟩ := h
  rw [Int32.lt_iff_toInt_lt] at c
  have a := own_add1 z1 h0 (by omega)
  have s := own_sh1 z1 h0 (by omega)
  have s2 := own_add1 (z1 <<< ((1 : Int32) &&& 31)) (by omega) (by omega)
  have t0 := own_tn z1 h0
  have t1 := own_tn (z1 + 1) (by omega)
  have t2 := own_tn (z1 <<< ((1 : Int32) &&& 31)) (by omega)
  have t3 := own_tn (z1 <<< ((1 : Int32) &&& 31) + 1) (by omega)
  refine ⟨rfl, by omega, by omega, h2, ?_⟩
  have e1 : (z1 <<< ((1 : Int32) &&& 31)).toNatClampNeg = 2 * z1.toNatClampNeg := by omega
  have e2 : (z1 <<< ((1 : Int32) &&& 31) + 1).toNatClampNeg = 2 * z1.toNatClampNeg + 1 := by omega
  have e3 : (z1 + 1).toNatClampNeg = z1.toNatClampNeg + 1 := by omega
  rw [e1, e2, e3]
  clear a s s2 t0 t1 t2 t3 e1 e2 e3
  intro j hj
  by_cases q : j = z1.toNatClampNeg
  · rw [q]; exact own_upd3 _ _ _ _
  · obtain ⟨u1, u2⟩ := own_upd2 g (nar .byte ((f (z1).toNatClampNeg).toInt8.toInt32)) (nar .byte (((f (z1).toNatClampNeg) >>> ((8 : Int32) &&& 31)).toInt8.toInt32)) z1.toNatClampNeg j (by omega)
    rw [u1, u2]
    exact h3 j (by omega)
theorem own_lessN {z n : Int32} (h0 : 0 ≤ z.toInt) (h : z.toInt < n.toInt) (h1 : z.toInt ≤ 1000) : n.toNatClampNeg - (z + (1 : Int32)).toNatClampNeg < n.toNatClampNeg - z.toNatClampNeg := by
  have a := own_add1 z h0 h1
  have t0 := own_tn z h0
  have t1 := own_tn (z + 1) (by omega)
  have t2 := own_tn n (by omega)
  omega
theorem own_tbL (h : own_tbI f p2 z1 z2 g) (c : z2 < p2) : p2.toNatClampNeg - (z2 + (1 : Int32)).toNatClampNeg < p2.toNatClampNeg - z2.toNatClampNeg := by
  obtain ⟨-, h0, h1, h2, -⟩ := h
  rw [Int32.lt_iff_toInt_lt] at c
  exact own_lessN h0 c (by omega)
theorem own_tbIn (h : own_tbI f p2 z1 z2 g) (c : z2 < p2) : (¬ z1 < 0) ∧ z1 < p2 := by
  obtain ⟨rfl, h0, h1, h2, -⟩ := h
  rw [Int32.lt_iff_toInt_lt] at c
  exact own_in0 h0 c
theorem own_shP {z n : Int32} (h0 : 0 ≤ z.toInt) (h : z.toInt < n.toInt) (h1 : n.toInt ≤ 100) : ((¬ (z <<< ((1 : Int32) &&& 31)) < 0) ∧ (z <<< ((1 : Int32) &&& 31)) < (n <<< ((1 : Int32) &&& 31))) ∧ ((¬ ((z <<< ((1 : Int32) &&& 31)) + (1 : Int32)) < 0) ∧ ((z <<< ((1 : Int32) &&& 31)) + (1 : Int32)) < (n <<< ((1 : Int32) &&& 31))) := by
  have s := own_sh1 z h0 (by omega)
  have s2 := own_add1 (z <<< ((1 : Int32) &&& 31)) (by omega) (by omega)
  have s3 := own_sh1 n (by omega) (by omega)
  exact ⟨own_in0 (by omega) (by omega), own_in0 (by omega) (by omega)⟩
theorem own_tbP (h : own_tbI f p2 z1 z2 g) (c : z2 < p2) : (¬ (z2 <<< ((1 : Int32) &&& 31)) < 0) ∧ (z2 <<< ((1 : Int32) &&& 31)) < (p2 <<< ((1 : Int32) &&& 31)) := by
  obtain ⟨-, h0, h1, h2, -⟩ := h
  rw [Int32.lt_iff_toInt_lt] at c
  exact (own_shP h0 c (by omega)).1
theorem own_tbQ (h : own_tbI f p2 z1 z2 g) (c : z2 < p2) : (¬ ((z2 <<< ((1 : Int32) &&& 31)) + (1 : Int32)) < 0) ∧ ((z2 <<< ((1 : Int32) &&& 31)) + (1 : Int32)) < (p2 <<< ((1 : Int32) &&& 31)) := by
  obtain ⟨-, h0, h1, h2, -⟩ := h
  rw [Int32.lt_iff_toInt_lt] at c
  exact (own_shP h0 c (by omega)).2
theorem own_tbE (h : own_tbI f p2 z1 z2 g) (c : ¬ (z2 < p2)) : own_u16 f g p2.toNatClampNeg := by
  obtain ⟨-, h0, h1, h2, h3⟩ := h
  rw [Int32.lt_iff_toInt_lt] at c
  have e : z2 = p2 := Int32.toInt_inj.mp (by omega)
  rw [← e]; exact h3
end OwnTb
def own_cL (f g : Nat → Int32) (n : Nat) : Prop := ∀ j, j < n → (¬ (255 : Int32) < f j) ∧ g j = nar .byte ((f j).toInt8.toInt32)
def own_cmI (f : Nat → Int32) (p4 z1 z2 z3 : Int32) (g : Nat → Int32) : Prop := z1 = z3 ∧ z2 = z3 ∧ 0 ≤ z3.toInt ∧ z3.toInt ≤ p4.toInt ∧ p4.toInt ≤ 48 ∧ own_cL f g z3.toNatClampNeg
def own_cmp (f g : Nat → Int32) (n z : Int32) : Prop := (z = n ∧ own_cL f g n.toNatClampNeg) ∨ (0 ≤ z.toInt ∧ z.toInt < n.toInt ∧ (255 : Int32) < f z.toNatClampNeg)
section OwnCm
variable {f g : Nat → Int32} {p4 z1 z2 z3 : Int32}
theorem own_cmS (h : 0 ≤ p4.toInt ∧ p4.toInt ≤ 48) : own_cmI f p4 0 0 0 g := ⟨rfl, rfl, by decide, h.1, h.2, fun j hj => absurd hj (Nat.not_lt_zero _)⟩
theorem own_cmIn (h : own_cmI f p4 z1 z2 z3 g) (c : z3 < p4) : (¬ z1 < 0) ∧ z1 < p4 := by
  obtain ⟨rfl, rfl, h0, h1, h2, -⟩ := h
  rw [Int32.lt_iff_toInt_lt] at c
  exact own_in0 h0 c
theorem own_cmJn (h : own_cmI f p4 z1 z2 z3 g) (c : z3 < p4) : (¬ z2 < 0) ∧ z2 < p4 := by
  obtain ⟨-, rfl, h0, h1, h2, -⟩ := h
  rw [Int32.lt_iff_toInt_lt] at c
  exact own_in0 h0 c
theorem own_cmL (h : own_cmI f p4 z1 z2 z3 g) (c : z3 < p4) (_ : ¬ ((255 : Int32) < (f (z1).toNatClampNeg))) : p4.toNatClampNeg - (z3 + (1 : Int32)).toNatClampNeg < p4.toNatClampNeg - z3.toNatClampNeg := by
  obtain ⟨-, -, h0, h1, h2, -⟩ := h
  rw [Int32.lt_iff_toInt_lt] at c
  exact own_lessN h0 c (by omega)
theorem own_cmB (h : own_cmI f p4 z1 z2 z3 g) (c : z3 < p4) (d : ¬ ((255 : Int32) < (f (z1).toNatClampNeg))) : own_cmI f p4 (z1 + (1 : Int32)) (z2 + (1 : Int32)) (z3 + (1 : Int32)) (qu g (z2).toNatClampNeg (nar .byte ((f (z1).toNatClampNeg).toInt8.toInt32))) := by
  obtain ⟨rfl, rfl, h0, h1, h2, h3⟩ := h
  rw [Int32.lt_iff_toInt_lt] at c
  have a := own_add1 z2 h0 (by omega)
  have t0 := own_tn z2 h0
  have t1 := own_tn (z2 + 1) (by omega)
  refine ⟨rfl, rfl, by omega, by omega, h2, ?_⟩
  have e3 : (z2 + 1).toNatClampNeg = z2.toNatClampNeg + 1 := by omega
  rw [e3]
  clear a t0 t1 e3
  intro j hj
  by_cases q : j = z2.toNatClampNeg
  · subst q; exact ⟨d, by simp only [qu, if_true]⟩
  · simp only [qu, q, if_false]
    exact h3 j (by omega)
theorem own_cmE (h : own_cmI f p4 z1 z2 z3 g) (c : ¬ (z3 < p4)) : own_cmp f g p4 p4 := by
  obtain ⟨-, -, h0, h1, h2, h3⟩ := h
  rw [Int32.lt_iff_toInt_lt] at c
  have e : z3 = p4 := Int32.toInt_inj.mp (by omega)
  rw [e] at h3
  exact Or.inl ⟨rfl, h3⟩
theorem own_cmF (h : own_cmI f p4 z1 z2 z3 g) (c : z3 < p4) (d : (255 : Int32) < (f (z1).toNatClampNeg)) : own_cmp f g p4 z3 := by
  obtain ⟨rfl, -, h0, h1, h2, h3⟩ := h
  rw [Int32.lt_iff_toInt_lt] at c
  exact Or.inr ⟨h0, c, d⟩
theorem own_cbN (hU : ∃ j, j < p4.toNatClampNeg ∧ (255 : Int32) < f j) (h : own_cmp f g p4 z1) : ¬ (z1 = p4) := by
  rcases h with ⟨-, h⟩ | ⟨h0, h1, -⟩
  · obtain ⟨j, q1, q2⟩ := hU
    exact absurd q2 (h j q1).1
  · intro e; rw [e] at h1; omega
theorem own_cbD (hL : ∀ j, j < p4.toNatClampNeg → ¬ ((255 : Int32) < f j)) (h : own_cmp f g p4 z1) : z1 = p4 := by
  rcases h with ⟨h, -⟩ | ⟨h0, h1, h2⟩
  · exact h
  · have t0 := own_tn z1 h0
    have t1 := own_tn p4 (by omega)
    exact absurd h2 (hL _ (by omega))
theorem own_cbL (hL : ∀ j, j < p4.toNatClampNeg → ¬ ((255 : Int32) < f j)) (h : own_cmp f g p4 z1) : own_cL f g p4.toNatClampNeg := by
  rcases h with ⟨-, h⟩ | ⟨h0, h1, h2⟩
  · exact h
  · have t0 := own_tn z1 h0
    have t1 := own_tn p4 (by omega)
    exact absurd h2 (hL _ (by omega))
theorem own_cbP (hU : ∃ j, j < p4.toNatClampNeg ∧ (255 : Int32) < f j) (hb : 0 ≤ p4.toInt ∧ p4.toInt ≤ 48) (h : own_cmp f g p4 z1) : ((¬ (z1 <<< ((1 : Int32) &&& 31)) < 0) ∧ (z1 <<< ((1 : Int32) &&& 31)) < (p4 <<< ((1 : Int32) &&& 31))) ∧ ((¬ ((z1 <<< ((1 : Int32) &&& 31)) + (1 : Int32)) < 0) ∧ ((z1 <<< ((1 : Int32) &&& 31)) + (1 : Int32)) < (p4 <<< ((1 : Int32) &&& 31))) := by
  rcases h with ⟨e, h⟩ | ⟨h0, h1, h2⟩
  · obtain ⟨j, q1, q2⟩ := hU
    exact absurd q2 (h j q1).1
  · exact own_shP h0 h1 (by omega)
theorem own_and255 (x : Int32) : (x &&& (255 : Int32)).toInt = x.toInt % 256 := by
  have h : (x &&& (255 : Int32)).toBitVec.toNat = x.toBitVec.toNat % 256 := by
    rw [Int32.toBitVec_and, BitVec.toNat_and]
    exact Nat.and_two_pow_sub_one_eq_mod _ 8
  have e : (x &&& (255 : Int32)).toInt = (x &&& (255 : Int32)).toBitVec.toInt := rfl
  have e2 : x.toInt = x.toBitVec.toInt := rfl
  rw [e, e2, BitVec.toInt_eq_toNat_of_lt (by omega), h, BitVec.toInt_eq_toNat_cond]
  split <;> omega
theorem own_get (x a b : Int32) (h0 : 0 ≤ x.toInt) (h1 : x.toInt < 65536) (ha : a = nar .byte (x.toInt8.toInt32)) (hb : b = nar .byte ((x >>> ((8 : Int32) &&& 31)).toInt8.toInt32)) : nar .char (((a &&& (255 : Int32)) ||| ((b &&& (255 : Int32)) <<< ((8 : Int32) &&& 31))).toUInt32.toUInt16.toUInt32.toInt32) = x := by
  have ha' : a = (x.toInt8.toInt32).toInt8.toInt32 := ha
  have hb' : b = ((x >>> ((8 : Int32) &&& 31)).toInt8.toInt32).toInt8.toInt32 := hb
  have q1 := c_i2b x
  have q2 := c_i2b (x.toInt8.toInt32)
  have q3 := c_ishr x 8 8 (by decide)
  have q4 := c_i2b (x >>> ((8 : Int32) &&& 31))
  have q5 := c_i2b ((x >>> ((8 : Int32) &&& 31)).toInt8.toInt32)
  rw [← ha'] at q2
  rw [← hb'] at q5
  clear ha hb ha' hb'
  have q6 := own_and255 a
  have q7 := own_and255 b
  have q8 := c_ishl (b &&& 255) 8 8 (by decide)
  have r8 := rng32 ((b &&& 255) <<< ((8 : Int32) &&& 31))
  have e8 : ((b &&& 255) <<< ((8 : Int32) &&& 31)).toInt = 256 * (b.toInt % 256) := by omega
  have q9 := c_or ((b &&& 255) <<< ((8 : Int32) &&& 31)) (a &&& 255) 8 (by decide) 256 (by decide) (by omega) (by omega) (by omega)
  have r9 := rng32 (((b &&& 255) <<< ((8 : Int32) &&& 31)) ||| (a &&& 255))
  rw [Int32.or_comm (a &&& 255)]
  generalize ((b &&& 255) <<< ((8 : Int32) &&& 31)) ||| (a &&& 255) = w at *
  have q10 := c_i2c w
  have q11 := c_i2c (w.toUInt32.toUInt16.toUInt32.toInt32)
  show (w.toUInt32.toUInt16.toUInt32.toInt32).toUInt32.toUInt16.toUInt32.toInt32 = x
  rw [← Int32.toInt_inj]
  omega
theorem own_cbG {g2 : Nat → Int32} (hR : ∀ j, j < p4.toNatClampNeg → 0 ≤ (f j).toInt ∧ (f j).toInt < 65536) (hb : 0 ≤ p4.toInt ∧ p4.toInt ≤ 48) (h : own_cmp f g p4 z1) (hu : own_u16 f g2 p4.toNatClampNeg) (hU : ∃ j, j < p4.toNatClampNeg ∧ (255 : Int32) < f j) : (255 : Int32) < (nar .char ((((g2 ((z1 <<< ((1 : Int32) &&& 31))).toNatClampNeg) &&& (255 : Int32)) ||| (((g2 (((z1 <<< ((1 : Int32) &&& 31)) + (1 : Int32))).toNatClampNeg) &&& (255 : Int32)) <<< ((8 : Int32) &&& 31))).toUInt32.toUInt16.toUInt32.toInt32)) := by
  rcases h with ⟨e, h⟩ | ⟨h0, h1, h2⟩
  · obtain ⟨j, q1, q2⟩ := hU
    exact absurd q2 (h j q1).1
  · have s := own_sh1 z1 h0 (by omega)
    have s2 := own_add1 (z1 <<< ((1 : Int32) &&& 31)) (by omega) (by omega)
    have t0 := own_tn z1 h0
    have t1 := own_tn p4 (by omega)
    have t2 := own_tn (z1 <<< ((1 : Int32) &&& 31)) (by omega)
    have t3 := own_tn (z1 <<< ((1 : Int32) &&& 31) + 1) (by omega)
    have e1 : (z1 <<< ((1 : Int32) &&& 31)).toNatClampNeg = 2 * z1.toNatClampNeg := by omega
    have e2 : (z1 <<< ((1 : Int32) &&& 31) + 1).toNatClampNeg = 2 * z1.toNatClampNeg + 1 := by omega
    have lt : z1.toNatClampNeg < p4.toNatClampNeg := by omega
    obtain ⟨u1, u2⟩ := hu _ lt
    obtain ⟨r1, r2⟩ := hR _ lt
    rw [e1, e2, own_get _ _ _ r1 r2 u1 u2]
    exact h2
end OwnCm
def own_inf (s d g : Nat → Int32) (o n : Nat) : Prop := (∀ j, j < n → g (2 * (o + j)) = nar .byte (((s j) &&& (255 : Int32)).toInt8.toInt32) ∧ g (2 * (o + j) + 1) = nar .byte ((((s j) &&& (255 : Int32)) >>> ((8 : Int32) &&& 31)).toInt8.toInt32)) ∧ ∀ k, k < 2 * o → g k = d k
def own_inI (s d : Nat → Int32) (m p3 p4 z1 z2 z3 : Int32) (g : Nat → Int32) : Prop := z1 = z3 ∧ z2.toInt = p3.toInt + z3.toInt ∧ 0 ≤ z3.toInt ∧ z3.toInt ≤ p4.toInt ∧ 0 ≤ p3.toInt ∧ p3.toInt + p4.toInt ≤ 48 ∧ 2 * (p3.toInt + p4.toInt) ≤ m.toInt ∧ own_inf s d g p3.toNatClampNeg z3.toNatClampNeg
section OwnIn
variable {s d g : Nat → Int32} {m p3 p4 z1 z2 z3 : Int32}
theorem own_inS (h : 0 ≤ p3.toInt ∧ 0 ≤ p4.toInt ∧ p3.toInt + p4.toInt ≤ 48 ∧ 2 * (p3.toInt + p4.toInt) ≤ m.toInt) : own_inI s d m p3 p4 0 p3 0 d := by
  have e : (0 : Int32).toInt = 0 := rfl
  refine ⟨rfl, by omega, by omega, by omega, h.1, h.2.2.1, h.2.2.2, fun j hj => absurd hj (Nat.not_lt_zero _), fun k _ => rfl⟩
theorem own_inIn (h : own_inI s d m p3 p4 z1 z2 z3 g) (c : z3 < p4) : (¬ z1 < 0) ∧ z1 < p4 := by
  obtain ⟨rfl, -, h0, -⟩ := h
  rw [Int32.lt_iff_toInt_lt] at c
  exact own_in0 h0 c
theorem own_inP (h : own_inI s d m p3 p4 z1 z2 z3 g) (c : z3 < p4) : (¬ (z2 <<< ((1 : Int32) &&& 31)) < 0) ∧ (z2 <<< ((1 : Int32) &&& 31)) < m := by
  obtain ⟨-, e, h0, h1, h2, h3, h4, -⟩ := h
  rw [Int32.lt_iff_toInt_lt] at c
  have s := own_sh1 z2 (by omega) (by omega)
  exact own_in0 (by omega) (by omega)
theorem own_inQ (h : own_inI s d m p3 p4 z1 z2 z3 g) (c : z3 < p4) : (¬ ((z2 <<< ((1 : Int32) &&& 31)) + (1 : Int32)) < 0) ∧ ((z2 <<< ((1 : Int32) &&& 31)) + (1 : Int32)) < m := by
  obtain ⟨-, e, h0, h1, h2, h3, h4, -⟩ := h
  rw [Int32.lt_iff_toInt_lt] at c
  have s := own_sh1 z2 (by omega) (by omega)
  have s2 := own_add1 (z2 <<< ((1 : Int32) &&& 31)) (by omega) (by omega)
  exact own_in0 (by omega) (by omega)
theorem own_inL (h : own_inI s d m p3 p4 z1 z2 z3 g) (c : z3 < p4) : p4.toNatClampNeg - (z3 + (1 : Int32)).toNatClampNeg < p4.toNatClampNeg - z3.toNatClampNeg := by
  obtain ⟨-, e, h0, h1, h2, h3, h4, -⟩ := h
  rw [Int32.lt_iff_toInt_lt] at c
  exact own_lessN h0 c (by omega)
theorem own_inB (h : own_inI s d m p3 p4 z1 z2 z3 g) (c : z3 < p4) : own_inI s d m p3 p4 (z1 + (1 : Int32)) (z2 + (1 : Int32)) (z3 + (1 : Int32)) (qu (qu g ((z2 <<< ((1 : Int32) &&& 31))).toNatClampNeg (nar .byte (((s (z1).toNatClampNeg) &&& (255 : Int32)).toInt8.toInt32))) (((z2 <<< ((1 : Int32) &&& 31)) + (1 : Int32))).toNatClampNeg (nar .byte ((((s (z1).toNatClampNeg) &&& (255 : Int32)) >>> ((8 : Int32) &&& 31)).toInt8.toInt32))) := by
  obtain ⟨rfl, e, h0, h1, h2, h3, h4, h5, h6⟩ := h
  rw [Int32.lt_iff_toInt_lt] at c
  have a := own_add1 z1 h0 (by omega)
  have a2 := own_add1 z2 (by omega) (by omega)
  have s1 := own_sh1 z2 (by omega) (by omega)
  have s2 := own_add1 (z2 <<< ((1 : Int32) &&& 31)) (by omega) (by omega)
  have t0 := own_tn z1 h0
  have t1 := own_tn (z1 + 1) (by omega)
  have t2 := own_tn (z2 <<< ((1 : Int32) &&& 31)) (by omega)
  have t3 := own_tn (z2 <<< ((1 : Int32) &&& 31) + 1) (by omega)
  have t4 := own_tn p3 h2
  refine ⟨rfl, by omega, by omega, by omega, h2, h3, h4, ?_⟩
  have e1 : (z2 <<< ((1 : Int32) &&& 31)).toNatClampNeg = 2 * (p3.toNatClampNeg + z1.toNatClampNeg) := by omega
  have e2 : (z2 <<< ((1 : Int32) &&& 31) + 1).toNatClampNeg = 2 * (p3.toNatClampNeg + z1.toNatClampNeg) + 1 := by omega
  have e3 : (z1 + 1).toNatClampNeg = z1.toNatClampNeg + 1 := by omega
  rw [e1, e2, e3]
  clear a a2 s1 s2 t0 t1 t2 t3 t4 e1 e2 e3 e
  constructor
  · intro j hj
    by_cases q : j = z1.toNatClampNeg
    · rw [q]; exact own_upd3 _ _ _ _
    · obtain ⟨u1, u2⟩ := own_upd2 g (nar .byte (((s (z1).toNatClampNeg) &&& (255 : Int32)).toInt8.toInt32)) (nar .byte ((((s (z1).toNatClampNeg) &&& (255 : Int32)) >>> ((8 : Int32) &&& 31)).toInt8.toInt32)) (p3.toNatClampNeg + z1.toNatClampNeg) (p3.toNatClampNeg + j) (by omega)
      rw [u1, u2]
      exact h5 j (by omega)
  · intro k hk
    have n1 : ¬ k = 2 * (p3.toNatClampNeg + z1.toNatClampNeg) := by omega
    have n2 : ¬ k = 2 * (p3.toNatClampNeg + z1.toNatClampNeg) + 1 := by omega
    simp only [qu, n1, n2, if_false]
    exact h6 k hk
theorem own_inE (h : own_inI s d m p3 p4 z1 z2 z3 g) (c : ¬ (z3 < p4)) : own_inf s d g p3.toNatClampNeg p4.toNatClampNeg := by
  obtain ⟨-, e, h0, h1, h2, h3, h4, h5⟩ := h
  rw [Int32.lt_iff_toInt_lt] at c
  have e : z3 = p4 := Int32.toInt_inj.mp (by omega)
  rw [← e]; exact h5
end OwnIn
def own_eqI (n z : Int32) : Prop := 0 ≤ z.toInt ∧ n = n
section OwnEq
variable {n z : Int32}
theorem own_eqS : own_eqI n 0 := ⟨by decide, rfl⟩
theorem own_eqN (h : own_eqI n z) (c : z < n) : (¬ z < 0) ∧ z < n := by
  rw [Int32.lt_iff_toInt_lt] at c
  exact own_in0 h.1 c
theorem own_eqJ (h : own_eqI n z) (c : z < n) : z.toNatClampNeg < n.toNatClampNeg := by
  rw [Int32.lt_iff_toInt_lt] at c
  have t0 := own_tn z h.1
  have t1 := own_tn n (by have := h.1; omega)
  omega
theorem own_addE (h : own_eqI n z) (c : z < n) : (z + (1 : Int32)).toInt = z.toInt + 1 := by
  rw [Int32.lt_iff_toInt_lt] at c
  have a := c_iadd z 1
  have r := rng32 (z + (1 : Int32))
  have r2 := rng32 n
  have e : (1 : Int32).toInt = 1 := rfl
  have := h.1
  omega
theorem own_eqL (h : own_eqI n z) (c : z < n) : n.toNatClampNeg - (z + (1 : Int32)).toNatClampNeg < n.toNatClampNeg - z.toNatClampNeg := by
  have a := own_addE h c
  rw [Int32.lt_iff_toInt_lt] at c
  have h0 := h.1
  have t0 := own_tn z h0
  have t1 := own_tn (z + 1) (by omega)
  have t2 := own_tn n (by omega)
  omega
theorem own_eqB (h : own_eqI n z) (c : z < n) : own_eqI n (z + (1 : Int32)) := by
  have a := own_addE h c
  have h0 := h.1
  exact ⟨by omega, h.2⟩
end OwnEq
theorem own_ne0 {args : Array Value} {s : State} {t : Term} {z : Int32} (h : (Jvm.Cond.not (Jvm.Cond.eq t (Jvm.Term.int (0 : Int32)))).value args s none s [] = some true) (ev : t.eval args s none [] s = some (.int z)) : ¬ (z = (0 : Int32)) := fun q => by
  subst q
  have e2 : (Term.int (0 : Int32)).eval args s none [] s = some (.int 0) := rfl
  simp [Cond.value, ev, e2] at h
theorem own_refV {args : Array Value} {s : State} {t : Term} (h : (Jvm.Cond.isRef t).value args s none s [] = some true) : ∃ v, t.eval args s none [] s = some v ∧ v.isRef = true := by
  cases e : t.eval args s none [] s with
  | none => simp [Cond.value, e] at h
  | some v => exact ⟨v, rfl, by cases v <;> first | rfl | simp [Cond.value, e] at h⟩
theorem own_eqV {args : Array Value} {s : State} {t : Term} {z : Int32} (h : (Jvm.Cond.eq t (Jvm.Term.int z)).value args s none s [] = some true) : t.eval args s none [] s = some (.int z) := by
  have e2 : (Term.int z).eval args s none [] s = some (.int z) := rfl
  cases e : t.eval args s none [] s with
  | none => simp [Cond.value, e] at h
  | some v => cases v with
    | int x => simp [Cond.value, e, e2] at h; rw [h]
    | _ => simp [Cond.value, e, e2] at h
abbrev own_LIT : List Int32 := [32, 108, 105, 115, 116, 115, 32, 110, 111, 32, 115, 116, 97, 116, 101, 44, 32, 97, 110, 100, 32, 97, 32, 109, 111, 100, 101, 108, 32, 104, 97, 115, 32, 97, 116, 32, 108, 101, 97, 115, 116, 32, 111, 110, 101]
def own_has (l : List (Int × Int)) (k : Nat) : Bool := l.any fun q => (own_ix q.1).toNatClampNeg == k
theorem own_ffF : ∀ (l : List (Int × Int)) (f : Nat → Int32) (k : Nat), own_has l k = false → own_ff f l k = f k
  | [], _, _, _ => rfl
  | (i, v) :: r, f, k, h => by
    simp only [own_has, List.any_cons, Bool.or_eq_false_iff, beq_eq_false_iff_ne] at h
    have e : own_ff f ((i, v) :: r) k = own_ff (qu f (own_ix i).toNatClampNeg (nar .char (Int8.ofInt v).toInt32)) r k := rfl
    rw [e, own_ffF r _ k h.2]
    simp only [qu, Ne.symm h.1, if_false]
theorem own_ffT : ∀ (l : List (Int × Int)) (f g : Nat → Int32) (k : Nat), own_has l k = true → own_ff f l k = own_ff g l k
  | [], _, _, _, h => by cases h
  | (i, v) :: r, f, g, k, h => by
    have e : ∀ f, own_ff f ((i, v) :: r) k = own_ff (qu f (own_ix i).toNatClampNeg (nar .char (Int8.ofInt v).toInt32)) r k := fun _ => rfl
    rw [e, e]
    by_cases q : own_has r k = true
    · exact own_ffT r _ _ k q
    · have q' : own_has r k = false := by simpa using q
      rw [own_ffF r _ k q', own_ffF r _ k q']
      have h' : own_has ((i, v) :: r) k = ((own_ix i).toNatClampNeg == k || own_has r k) := rfl
      rw [h', q', Bool.or_false, beq_iff_eq] at h
      simp only [qu, h, if_true]
theorem own_nc {x v : Int32} (h : (x.toUInt32.toUInt16.toUInt32.toInt32) = v) : nar .char v = v ∧ 0 ≤ v.toInt ∧ v.toInt < 65536 := by
  have h1 := c_i2c x
  rw [h] at h1
  have h2 := c_i2c v
  refine ⟨?_, by omega, by omega⟩
  show v.toUInt32.toUInt16.toUInt32.toInt32 = v
  rw [← Int32.toInt_inj]
  omega
def own_v1 (a : Int32) : Nat → Int32 := fun _ => a
def own_v2 (a b : Int32) : Nat → Int32 := fun i => if i = 0 then a else b
def own_v3 (a b c : Int32) : Nat → Int32 := fun i => if i = 0 then a else if i = 1 then b else c
theorem own_lt1 {P : Nat → Prop} (h0 : P 0) : ∀ j, j < 1 → P j := fun j hj => by
  obtain rfl : j = 0 := by omega
  exact h0
theorem own_lt2 {P : Nat → Prop} (h0 : P 0) (h1 : P 1) : ∀ j, j < 2 → P j := fun j hj => by
  by_cases q : j = 0
  · subst q; exact h0
  · obtain rfl : j = 1 := by omega
    exact h1
theorem own_lt3 {P : Nat → Prop} (h0 : P 0) (h1 : P 1) (h2 : P 2) : ∀ j, j < 3 → P j := fun j hj => by
  by_cases q : j = 0
  · subst q; exact h0
  · by_cases q1 : j = 1
    · subst q1; exact h1
    · obtain rfl : j = 2 := by omega
      exact h2
section OwnM3
variable {a b c : Int32}
theorem own_q1 (ha : nar .char a = a) : ∀ j, j < 1 → qu (fun _ => (0 : Int32)) 0 (nar .char a) j = own_v1 a j := own_lt1 ha
theorem own_q2 (ha : nar .char a = a) (hb : nar .char b = b) : ∀ j, j < 2 → qu (qu (fun _ => (0 : Int32)) 0 (nar .char a)) 1 (nar .char b) j = own_v2 a b j := own_lt2 ha hb
theorem own_q3 (ha : nar .char a = a) (hb : nar .char b = b) (hc : nar .char c = c) : ∀ j, j < 3 → qu (qu (qu (fun _ => (0 : Int32)) 0 (nar .char a)) 1 (nar .char b)) 2 (nar .char c) j = own_v3 a b c j := own_lt3 ha hb hc
theorem own_l1 (h : ¬ ((255 : Int32) < a)) : ∀ j, j < 1 → ¬ ((255 : Int32) < own_v1 a j) := own_lt1 h
theorem own_l2 (h : ¬ ((255 : Int32) < a ∨ (255 : Int32) < b)) : ∀ j, j < 2 → ¬ ((255 : Int32) < own_v2 a b j) := own_lt2 (fun q => h (Or.inl q)) (fun q => h (Or.inr q))
theorem own_l3 (h : ¬ ((255 : Int32) < a ∨ (255 : Int32) < b ∨ (255 : Int32) < c)) : ∀ j, j < 3 → ¬ ((255 : Int32) < own_v3 a b c j) := own_lt3 (fun q => h (Or.inl q)) (fun q => h (Or.inr (Or.inl q))) (fun q => h (Or.inr (Or.inr q)))
theorem own_u1 (h : (255 : Int32) < a) : ∃ j, j < 1 ∧ (255 : Int32) < own_v1 a j := ⟨0, by decide, h⟩
theorem own_u2 (h : (255 : Int32) < a ∨ (255 : Int32) < b) : ∃ j, j < 2 ∧ (255 : Int32) < own_v2 a b j := by
  rcases h with h | h
  · exact ⟨0, by decide, h⟩
  · exact ⟨1, by decide, h⟩
theorem own_u3 (h : (255 : Int32) < a ∨ (255 : Int32) < b ∨ (255 : Int32) < c) : ∃ j, j < 3 ∧ (255 : Int32) < own_v3 a b c j := by
  rcases h with h | h | h
  · exact ⟨0, by decide, h⟩
  · exact ⟨1, by decide, h⟩
  · exact ⟨2, by decide, h⟩
theorem own_r1 (ha : 0 ≤ a.toInt ∧ a.toInt < 65536) : ∀ j, j < 1 → 0 ≤ (own_v1 a j).toInt ∧ (own_v1 a j).toInt < 65536 := own_lt1 ha
theorem own_r2 (ha : 0 ≤ a.toInt ∧ a.toInt < 65536) (hb : 0 ≤ b.toInt ∧ b.toInt < 65536) : ∀ j, j < 2 → 0 ≤ (own_v2 a b j).toInt ∧ (own_v2 a b j).toInt < 65536 := own_lt2 ha hb
theorem own_r3 (ha : 0 ≤ a.toInt ∧ a.toInt < 65536) (hb : 0 ≤ b.toInt ∧ b.toInt < 65536) (hc : 0 ≤ c.toInt ∧ c.toInt < 65536) : ∀ j, j < 3 → 0 ≤ (own_v3 a b c j).toInt ∧ (own_v3 a b c j).toInt < 65536 := own_lt3 ha hb hc
theorem own_litR : ∀ j, j < 45 → 0 ≤ (own_li own_LIT j).toInt ∧ (own_li own_LIT j).toInt < 128 ∧ own_li own_LIT j &&& (255 : Int32) = own_li own_LIT j ∧ own_li own_LIT j = nar .byte ((own_li own_LIT j).toInt8.toInt32) ∧ ¬ ((255 : Int32) < own_li own_LIT j) := by decide +kernel
variable {n : Nat} {F v g gP bE gg : Nat → Int32}
theorem own_both {P : Nat → Prop} (h1 : ∀ j, j < n → P j) (h2 : ∀ j, j < 45 → P (n + j)) : ∀ j, j < n + 45 → P j := fun j hj => by
  by_cases q : j < n
  · exact h1 j q
  · have h := h2 (j - n) (by omega)
    have e : n + (j - n) = j := by omega
    rw [e] at h; exact h
theorem own_gL (hA : ∀ j, j < n → F j = v j) (hl : ∀ j, j < n → ¬ ((255 : Int32) < v j)) (hB : ∀ j, j < 45 → F (n + j) = own_li own_LIT j) : ∀ j, j < n + 45 → ¬ ((255 : Int32) < F j) := own_both (fun j hj => by rw [hA j hj]; exact hl j hj) (fun j hj => by rw [hB j hj]; exact (own_litR j hj).2.2.2.2)
theorem own_gR (hA : ∀ j, j < n → F j = v j) (hr : ∀ j, j < n → 0 ≤ (v j).toInt ∧ (v j).toInt < 65536) (hB : ∀ j, j < 45 → F (n + j) = own_li own_LIT j) : ∀ j, j < n + 45 → 0 ≤ (F j).toInt ∧ (F j).toInt < 65536 := own_both (fun j hj => by rw [hA j hj]; exact hr j hj) (fun j hj => by rw [hB j hj]; have h := own_litR j hj; omega)
theorem own_gU (hA : ∀ j, j < n → F j = v j) (hu : ∃ j, j < n ∧ (255 : Int32) < v j) : ∃ j, j < n + 45 ∧ (255 : Int32) < F j := by
  obtain ⟨j, q1, q2⟩ := hu
  exact ⟨j, by omega, by rw [hA j q1]; exact q2⟩
/-- the first append's bytes are those of the first chars -/
theorem own_pL (hA : ∀ j, j < n → F j = v j) (h : own_cL g gP n) (hq : ∀ j, j < n → g j = v j) : ∀ j, j < n → gP j = nar .byte ((F j).toInt8.toInt32) := fun j hj => by rw [(h j hj).2, hA j hj, hq j hj]
theorem own_pU (hA : ∀ j, j < n → F j = v j) (h : own_u16 g gP n) (hq : ∀ j, j < n → g j = v j) : own_u16 F gP n := fun j hj => by rw [(h j hj).1, (h j hj).2, hA j hj, hq j hj]; exact ⟨rfl, rfl⟩
theorem own_finL (n : Nat) (hn : n ≤ 3) (h1 : ∀ j, j < n → gP j = nar .byte ((F j).toInt8.toInt32)) (hB : ∀ j, j < 45 → F (n + j) = own_li own_LIT j) (hb : own_cL F bE (n + 45)) : ∀ j, j < n + 45 → own_cp (own_li own_LIT) 0 (own_cp (own_cp gP 0 (fun _ => (0 : Int32)) 0 n) 0 (fun _ => (0 : Int32)) 0 16) n 45 j = bE j := by
  intro j hj
  rw [(hb j hj).2]
  by_cases q : j < n
  · have c1 : ¬ (n ≤ j ∧ j < n + 45) := by omega
    have c2 : 0 ≤ j ∧ j < 0 + 16 := by omega
    have c3 : 0 ≤ 0 + (j - 0) ∧ 0 + (j - 0) < 0 + n := by omega
    have c4 : 0 + (0 + (j - 0) - 0) = j := by omega
    rw [← h1 j q]
    simp only [own_cp, c1, c2, c3, c4, if_false, if_true, and_self]
  · have c1 : n ≤ j ∧ j < n + 45 := by omega
    have h := hB (j - n) (by omega)
    have e : n + (j - n) = j := by omega
    rw [e] at h
    rw [h]
    have c2 : 0 + (j - n) = j - n := by omega
    simp only [own_cp, c1, c2, if_true, and_self]
    exact (own_litR (j - n) (by omega)).2.2.2.1
theorem own_fin0 (d : Nat → Int32) : ∀ j, j < 45 → own_cp (own_li own_LIT) 0 d 0 45 j = own_li own_LIT j := fun j hj => by
  have c1 : 0 ≤ j ∧ j < 0 + 45 := by omega
  have c2 : 0 + (j - 0) = j := by omega
  simp only [own_cp, c1, c2, if_true, and_self]
theorem own_finU (n : Nat) (hn : n ≤ 3) (h1 : own_u16 F gP n) (hB : ∀ j, j < 45 → F (n + j) = own_li own_LIT j) (hI : own_inf (own_li own_LIT) (own_cp (own_cp gP 0 (fun _ => (0 : Int32)) 0 (2 * n)) 0 (fun _ => (0 : Int32)) 0 32) gg n 45) (hb : own_u16 F bE (n + 45)) : ∀ k, k < 2 * (n + 45) → gg k = bE k := by
  have key : ∀ j, j < n + 45 → gg (2 * j) = bE (2 * j) ∧ gg (2 * j + 1) = bE (2 * j + 1) := by
    intro j hj
    obtain ⟨b1, b2⟩ := hb j hj
    rw [b1, b2]
    by_cases q : j < n
    · obtain ⟨p1, p2⟩ := h1 j q
      rw [hI.2 (2 * j) (by omega), hI.2 (2 * j + 1) (by omega), ← p1, ← p2]
      have c2 : 0 ≤ 2 * j ∧ 2 * j < 0 + 32 := by omega
      have c3 : 0 ≤ 0 + (2 * j - 0) ∧ 0 + (2 * j - 0) < 0 + 2 * n := by omega
      have c4 : 0 + (0 + (2 * j - 0) - 0) = 2 * j := by omega
      have d2 : 0 ≤ 2 * j + 1 ∧ 2 * j + 1 < 0 + 32 := by omega
      have d3 : 0 ≤ 0 + (2 * j + 1 - 0) ∧ 0 + (2 * j + 1 - 0) < 0 + 2 * n := by omega
      have d4 : 0 + (0 + (2 * j + 1 - 0) - 0) = 2 * j + 1 := by omega
      constructor
      · simp only [own_cp, c2, c3, c4, if_true, and_self]
      · simp only [own_cp, d2, d3, d4, if_true, and_self]
    · obtain ⟨i1, i2⟩ := hI.1 (j - n) (by omega)
      have e : n + (j - n) = j := by omega
      have h := hB (j - n) (by omega)
      rw [e] at i1 i2 h
      rw [i1, i2, h, (own_litR (j - n) (by omega)).2.2.1]
      exact ⟨rfl, rfl⟩
  intro k hk
  by_cases q : k % 2 = 0
  · have e : k = 2 * (k / 2) := by omega
    rw [e]; exact (key (k / 2) (by omega)).1
  · have e : k = 2 * (k / 2) + 1 := by omega
    rw [e]; exact (key (k / 2) (by omega)).2
theorem own_p1L (ha : nar .char a = a) (hl : ¬ ((255 : Int32) < a)) : own_cL (qu (fun _ => (0 : Int32)) 0 (nar .char a)) (qu (fun _ => (0 : Int32)) 0 (nar .byte (a.toInt8.toInt32))) 1 := own_lt1 ⟨by show ¬ ((255 : Int32) < nar .char a); rw [ha]; exact hl, by show nar .byte (a.toInt8.toInt32) = nar .byte ((nar .char a).toInt8.toInt32); rw [ha]⟩
theorem own_p1U (ha : nar .char a = a) : own_u16 (qu (fun _ => (0 : Int32)) 0 (nar .char a)) (qu (qu (fun _ => (0 : Int32)) 0 (nar .byte (a.toInt8.toInt32))) 1 (nar .byte ((a >>> ((8 : Int32) &&& 31)).toInt8.toInt32))) 1 := own_lt1 ⟨by show nar .byte (a.toInt8.toInt32) = nar .byte ((nar .char a).toInt8.toInt32); rw [ha], by show nar .byte ((a >>> ((8 : Int32) &&& 31)).toInt8.toInt32) = nar .byte (((nar .char a) >>> ((8 : Int32) &&& 31)).toInt8.toInt32); rw [ha]⟩
end OwnM3
abbrev cA : String := "java/lang/AbstractStringBuilder"
abbrev cS : String := "java/lang/String"
abbrev cU : String := "java/lang/StringUTF16"
set_option maxRecDepth 65536
set_option maxHeartbeats 40000000
abbrev vI (x : Int32) : Slot := Slot.val (Value.int x)
abbrev vR (x : Addr) : Slot := Slot.val (Value.ref x)
theorem qn {a b n : Nat} (h1 : a < n) (h2 : n ≤ b) : a ≠ b := Nat.ne_of_lt (Nat.lt_of_lt_of_le h1 h2)
theorem qm {a b n : Nat} (h1 : a < n) (h2 : n ≤ b) : b ≠ a := (Nat.ne_of_lt (Nat.lt_of_lt_of_le h1 h2)).symm
theorem own_atoms : ∀ a ∈ Bundle.stringAtoms, a ∈ tables_1 := by decide +kernel
theorem own_EW {Z : State} {A0 : Array Value} (hw : ∀ d ∈ tables_1, d.before A0 Z = true) : EW Z A0 consts_1 := (EW.cons (hw _ (List.mem_of_getElem? (i := 86) rfl)) (by decide) (EW.cons (hw _ (List.mem_of_getElem? (i := 0) rfl)) (by decide) (EW.cons (hw _ (List.mem_of_getElem? (i := 8) rfl)) (by decide) EW.nil)))
theorem d43 : own_ds jdk_52_method_4_code [(0, .getstatic 44, 3), (3, .ifCond .ne 25, 3), (28, .iload_n 1, 1), (29, .iconst 1, 1), (30, .ishl, 1), (31, .istore_n 1, 1), (32, .aload_n 0, 1), (33, .iload_n 1, 1), (34, .iinc 1 1, 3), (37, .iload_n 2, 1), (38, .getstatic 59, 3), (41, .ishr, 1), (42, .i2b, 1), (43, .bastore, 1), (44, .aload_n 0, 1), (45, .iload_n 1, 1), (46, .iload_n 2, 1), (47, .getstatic 63, 3), (50, .ishr, 1), (51, .i2b, 1), (52, .bastore, 1), (53, .return_, 1)] = true := by decide +kernel
theorem pn_putc : plainName "java/lang/StringUTF16" = true := by first | (simp [plainName, overriddenIn]; done) | decide +kernel
theorem ef_putc (m : MethodId) (a0 : Addr) (p1 p2 : Int32) : entryFrame m #[(.ref a0), (.int p1), (.int p2)] 3 = mkF m 0 #[vR a0, vI p1, vI p2] [] := rfl
def Qputc (Z : State) (k_a0 : ClassId) (n_a0 : Int32) (fn_a0 : Nat → Int32) (a0 : Addr) (p1 p2 : Int32) (h0 : Heap) (n0 : Nat) (v : Option Value) (h : Heap) (L : List Loc) : Prop := v = none ∧ Fr n0 L ∧ Keep h0 h [a0] ∧ qA Z h a0 k_a0 .byte n_a0 (fun i => .int ((qu (qu fn_a0 ((p1 <<< ((1 : Int32) &&& 31))).toNatClampNeg (nar .byte (p2.toInt8.toInt32))) (((p1 <<< ((1 : Int32) &&& 31)) + (1 : Int32))).toNatClampNeg (nar .byte ((p2 >>> ((8 : Int32) &&& 31)).toInt8.toInt32))) i))
theorem rmputc (l : Launch) (Z : State) (A0 : Array Value) (hw : ∀ d ∈ tables_1, d.before A0 Z = true) (ws : List Jvm.Cond) (k_a0 : ClassId) (n_a0 : Int32) (fn_a0 : Nat → Int32) (a0 : Addr) (p1 p2 : Int32) (h0 : Heap) (n0 : Nat) (Z0 : n0 ≤ h0.size) (P_V_a0 : qA Z h0 a0 k_a0 .byte n_a0 (fun i => .int (fn_a0 i))) (P_S_UD : Sta Z h0 cU "$assertionsDisabled" "Z" (.int 1)) (P_S_HI_BYTE_SHIFT : Sta Z h0 cU "HI_BYTE_SHIFT" "I" (.int 0)) (P_S_LO_BYTE_SHIFT : Sta Z h0 cU "LO_BYTE_SHIFT" "I" (.int 8)) (hi_43_4 : (¬ (p1 <<< ((1 : Int32) &&& 31)) < 0) ∧ (p1 <<< ((1 : Int32) &&& 31)) < n_a0) (g_a0 : n0 ≤ a0) (hi_52_6 : (¬ ((p1 <<< ((1 : Int32) &&& 31)) + (1 : Int32)) < 0) ∧ ((p1 <<< ((1 : Int32) &&& 31)) + (1 : Int32)) < n_a0) :
  qM l Z (⟨"java/lang/StringUTF16", "putChar", "([BII)V"⟩ : MethodName) jdk_52_method_4_code 3 none ws ({ frames := 0, cells := 0, slots := 0, locals := 0 } : Room) #[(.ref a0), (.int p1), (.int p2)] h0 (Qputc Z k_a0 n_a0 fn_a0 a0 p1 p2 h0 n0) 0 0 := own_enter (plainFor_of_name pn_putc) (fun m => ef_putc m a0 p1 p2) fun p e s m below meth c s₁ hx hby hml hlk hown hnm X0 e0 hZ hrt => by
 have hwd := qw hw
 have N0 := Fr.nil n0
 show qG p e below _ (s₁.setTop (mkF m 0 #[vR a0, vI p1, vI p2] []))
 obtain ⟨T1, X1, e1, st1⟩ := getS2 X0 hx hZ hown (host := "") (Or.inl (hwd 264 rfl)) Via.refl e0 P_S_UD (g := (mkF m 0 #[vR a0, vI p1, vI p2] [])) rfl (own_e hby d43 0 rfl)
 refine qb st1 ?_
 refine qb (fun _ k => XS.ifYes X1.here hx rfl (pc0 := 3) (pc' := 28) rfl (own_e hby d43 1 rfl) rfl ((if0 _ _).trans (feq (by decide : ¬ ((1 : Int32) = (0 : Int32)))).2) (by decide) (by decide) k) ?_
 show qG p e below _ (T1.setTop (mkF m 28 #[vR a0, vI p1, vI p2] []))
 refine qb (fun _ k => XS.iloadN X1.here hx rfl (own_e hby d43 2 rfl) rfl k) ?_
 refine qb (fun _ k => XS.iconst X1.here hx rfl (own_e hby d43 3 rfl) k) ?_
 refine qb (fun _ k => XS.ishl X1.here hx rfl (own_e hby d43 4 rfl) rfl k) ?_
 refine qb (fun _ k => XS.istoreN X1.here hx rfl (own_e hby d43 5 rfl) rfl (l' := #[vR a0, vI (p1 <<< ((1 : Int32) &&& 31)), vI p2]) rfl k) ?_
 show qG p e below _ (T1.setTop (mkF m 32 #[vR a0, vI (p1 <<< ((1 : Int32) &&& 31)), vI p2] []))
 refine qb (fun _ k => XS.aloadN X1.here hx rfl (own_e hby d43 6 rfl) rfl rfl k) ?_
 refine qb (fun _ k => XS.iloadN X1.here hx rfl (own_e hby d43 7 rfl) rfl k) ?_
 refine qb (fun _ k => XS.iinc X1.here hx rfl (own_e hby d43 8 rfl) rfl (l' := #[vR a0, vI ((p1 <<< ((1 : Int32) &&& 31)) + (1 : Int32)), vI p2]) rfl k) ?_
 show qG p e below _ (T1.setTop (mkF m 37 #[vR a0, vI ((p1 <<< ((1 : Int32) &&& 31)) + (1 : Int32)), vI p2] [(.int (p1 <<< ((1 : Int32) &&& 31))), (.ref a0)]))
 refine qb (fun _ k => XS.iloadN X1.here hx rfl (own_e hby d43 9 rfl) rfl k) ?_
 obtain ⟨T2, X2, e2, st2⟩ := getS2 X1 hx hZ hown (host := "") (Or.inl (hwd 265 rfl)) Via.refl e1 P_S_HI_BYTE_SHIFT (g := (mkF m 38 #[vR a0, vI ((p1 <<< ((1 : Int32) &&& 31)) + (1 : Int32)), vI p2] [(.int p2), (.int (p1 <<< ((1 : Int32) &&& 31))), (.ref a0)])) rfl (own_e hby d43 10 rfl)
 refine qb st2 ?_
 refine qb (fun _ k => XS.ishr X2.here hx rfl (own_e hby d43 11 rfl) rfl k) ?_
 show qG p e below _ (T2.setTop (mkF m 42 #[vR a0, vI ((p1 <<< ((1 : Int32) &&& 31)) + (1 : Int32)), vI p2] [(.int (p2 >>> ((0 : Int32) &&& 31))), (.int (p1 <<< ((1 : Int32) &&& 31))), (.ref a0)]))
 rw [own_ishr0]
 show qG p e below _ (T2.setTop (mkF m 42 #[vR a0, vI ((p1 <<< ((1 : Int32) &&& 31)) + (1 : Int32)), vI p2] [(.int p2), (.int (p1 <<< ((1 : Int32) &&& 31))), (.ref a0)]))
 refine qb (fun _ k => XS.i2b X2.here hx rfl (own_e hby d43 12 rfl) rfl k) ?_
 obtain ⟨cl3, Ar3, qq3, S3, M3, H3, G3⟩ := id P_V_a0
 have hin3 : ¬ ((p1 <<< ((1 : Int32) &&& 31)) < 0 ∨ cl3.slots.size ≤ ((p1 <<< ((1 : Int32) &&& 31))).toNatClampNeg) := inb_of S3 hi_43_4
 obtain ⟨T4, h4, X4, e4, W4, st4⟩ := stB X2 hx hZ e2 Ar3 (j := (p1 <<< ((1 : Int32) &&& 31))) hin3 (g := (mkF m 43 #[vR a0, vI ((p1 <<< ((1 : Int32) &&& 31)) + (1 : Int32)), vI p2] [(.int (p2.toInt8.toInt32)), (.int (p1 <<< ((1 : Int32) &&& 31))), (.ref a0)])) rfl rfl (own_e hby d43 13 rfl)
 have V4 : qA Z h4 a0 k_a0 .byte n_a0 (fun i => .int ((qu fn_a0 ((p1 <<< ((1 : Int32) &&& 31))).toNatClampNeg (nar .byte (p2.toInt8.toInt32))) i)) := own_arfSetI Ar3 qq3 S3 M3 H3 G3 (fits_nar_byte _) W4
 have K4 : Keep h0 h4 [a0] := (Keep.refl h0 [a0]).wr W4 (Or.inl (List.mem_of_getElem? (i := 0) rfl))
 have Z4 := ql Z0 (Keep.of_wr W4).1
 have N4 := Fr.snoc X4 N0 g_a0
 refine qb st4 ?_
 refine qb (fun _ k => XS.aloadN X4.here hx rfl (own_e hby d43 14 rfl) rfl rfl k) ?_
 refine qb (fun _ k => XS.iloadN X4.here hx rfl (own_e hby d43 15 rfl) rfl k) ?_
 refine qb (fun _ k => XS.iloadN X4.here hx rfl (own_e hby d43 16 rfl) rfl k) ?_
 have F5 := (P_S_LO_BYTE_SHIFT.wr W4)
 obtain ⟨T6, X6, e6, st6⟩ := getS2 X4 hx hZ hown (host := "") (Or.inl (hwd 266 rfl)) Via.refl e4 F5 (g := (mkF m 47 #[vR a0, vI ((p1 <<< ((1 : Int32) &&& 31)) + (1 : Int32)), vI p2] [(.int p2), (.int ((p1 <<< ((1 : Int32) &&& 31)) + (1 : Int32))), (.ref a0)])) rfl (own_e hby d43 17 rfl)
 refine qb st6 ?_
 refine qb (fun _ k => XS.ishr X6.here hx rfl (own_e hby d43 18 rfl) rfl k) ?_
 refine qb (fun _ k => XS.i2b X6.here hx rfl (own_e hby d43 19 rfl) rfl k) ?_
 obtain ⟨cl7, Ar7, qq7, S7, M7, H7, G7⟩ := id V4
 have hin7 : ¬ (((p1 <<< ((1 : Int32) &&& 31)) + (1 : Int32)) < 0 ∨ cl7.slots.size ≤ (((p1 <<< ((1 : Int32) &&& 31)) + (1 : Int32))).toNatClampNeg) := inb_of S7 hi_52_6
 obtain ⟨T8, h8, X8, e8, W8, st8⟩ := stB X6 hx hZ e6 Ar7 (j := ((p1 <<< ((1 : Int32) &&& 31)) + (1 : Int32))) hin7 (g := (mkF m 52 #[vR a0, vI ((p1 <<< ((1 : Int32) &&& 31)) + (1 : Int32)), vI p2] [(.int ((p2 >>> ((8 : Int32) &&& 31)).toInt8.toInt32)), (.int ((p1 <<< ((1 : Int32) &&& 31)) + (1 : Int32))), (.ref a0)])) rfl rfl (own_e hby d43 20 rfl)
 have V8 : qA Z h8 a0 k_a0 .byte n_a0 (fun i => .int ((qu (qu fn_a0 ((p1 <<< ((1 : Int32) &&& 31))).toNatClampNeg (nar .byte (p2.toInt8.toInt32))) (((p1 <<< ((1 : Int32) &&& 31)) + (1 : Int32))).toNatClampNeg (nar .byte ((p2 >>> ((8 : Int32) &&& 31)).toInt8.toInt32))) i)) := own_arfSetI Ar7 qq7 S7 M7 H7 G7 (fits_nar_byte _) W8
 have K8 : Keep h0 h8 [a0] := K4.wr W8 (Or.inl (List.mem_of_getElem? (i := 0) rfl))
 have Z8 := ql Z4 (Keep.of_wr W8).1
 have N8 := Fr.snoc X8 N4 g_a0
 refine qb st8 ?_
 exact own_ret0 X8 hx hrt (own_e hby d43 21 rfl) hlk e8 ⟨rfl, N8, K8, V8⟩ (by decide) (by decide)
theorem d44 : own_ds jdk_52_method_5_code [(0, .getstatic 44, 3), (3, .ifCond .ne 25, 3), (28, .iload_n 1, 1), (29, .iconst 1, 1), (30, .ishl, 1), (31, .istore_n 1, 1), (32, .aload_n 0, 1), (33, .iload_n 1, 1), (34, .iinc 1 1, 3), (37, .baload, 1), (38, .sipush 255, 3), (41, .iand, 1), (42, .getstatic 59, 3), (45, .ishl, 1), (46, .aload_n 0, 1), (47, .iload_n 1, 1), (48, .baload, 1), (49, .sipush 255, 3), (52, .iand, 1), (53, .getstatic 63, 3), (56, .ishl, 1), (57, .ior, 1), (58, .i2c, 1), (59, .ireturn, 1)] = true := by decide +kernel
theorem ef_getc (m : MethodId) (a0 : Addr) (p1 : Int32) : entryFrame m #[(.ref a0), (.int p1)] 2 = mkF m 0 #[vR a0, vI p1] [] := rfl
def Qgetc (Z : State) (k_a0 : ClassId) (n_a0 : Int32) (fn_a0 : Nat → Int32) (a0 : Addr) (p1 : Int32) (h0 : Heap) (n0 : Nat) (v : Option Value) (h : Heap) (L : List Loc) : Prop := v = some (.int (nar .char ((((fn_a0 ((p1 <<< ((1 : Int32) &&& 31))).toNatClampNeg) &&& (255 : Int32)) ||| (((fn_a0 (((p1 <<< ((1 : Int32) &&& 31)) + (1 : Int32))).toNatClampNeg) &&& (255 : Int32)) <<< ((8 : Int32) &&& 31))).toUInt32.toUInt16.toUInt32.toInt32))) ∧ Fr n0 L ∧ h = h0
theorem rmgetc (l : Launch) (Z : State) (A0 : Array Value) (hw : ∀ d ∈ tables_1, d.before A0 Z = true) (ws : List Jvm.Cond) (k_a0 : ClassId) (n_a0 : Int32) (fn_a0 : Nat → Int32) (a0 : Addr) (p1 : Int32) (h0 : Heap) (n0 : Nat) (Z0 : n0 ≤ h0.size) (P_V_a0 : qA Z h0 a0 k_a0 .byte n_a0 (fun i => .int (fn_a0 i))) (P_S_UD : Sta Z h0 cU "$assertionsDisabled" "Z" (.int 1)) (P_S_HI_BYTE_SHIFT : Sta Z h0 cU "HI_BYTE_SHIFT" "I" (.int 0)) (P_S_LO_BYTE_SHIFT : Sta Z h0 cU "LO_BYTE_SHIFT" "I" (.int 8)) (hi_37_4 : (¬ (p1 <<< ((1 : Int32) &&& 31)) < 0) ∧ (p1 <<< ((1 : Int32) &&& 31)) < n_a0) (hi_48_5 : (¬ ((p1 <<< ((1 : Int32) &&& 31)) + (1 : Int32)) < 0) ∧ ((p1 <<< ((1 : Int32) &&& 31)) + (1 : Int32)) < n_a0) :
  qM l Z (⟨"java/lang/StringUTF16", "getChar", "([BI)C"⟩ : MethodName) jdk_52_method_5_code 2 (some .char) ws ({ frames := 0, cells := 0, slots := 0, locals := 0 } : Room) #[(.ref a0), (.int p1)] h0 (Qgetc Z k_a0 n_a0 fn_a0 a0 p1 h0 n0) 0 0 := own_enter (plainFor_of_name pn_putc) (fun m => ef_getc m a0 p1) fun p e s m below meth c s₁ hx hby hml hlk hown hnm X0 e0 hZ hrt => by
 have hwd := qw hw
 have N0 := Fr.nil n0
 show qG p e below _ (s₁.setTop (mkF m 0 #[vR a0, vI p1] []))
 obtain ⟨T1, X1, e1, st1⟩ := getS2 X0 hx hZ hown (host := "") (Or.inl (hwd 264 rfl)) Via.refl e0 P_S_UD (g := (mkF m 0 #[vR a0, vI p1] [])) rfl (own_e hby d44 0 rfl)
 refine qb st1 ?_
 refine qb (fun _ k => XS.ifYes X1.here hx rfl (pc0 := 3) (pc' := 28) rfl (own_e hby d44 1 rfl) rfl ((if0 _ _).trans (feq (by decide : ¬ ((1 : Int32) = (0 : Int32)))).2) (by decide) (by decide) k) ?_
 show qG p e below _ (T1.setTop (mkF m 28 #[vR a0, vI p1] []))
 refine qb (fun _ k => XS.iloadN X1.here hx rfl (own_e hby d44 2 rfl) rfl k) ?_
 refine qb (fun _ k => XS.iconst X1.here hx rfl (own_e hby d44 3 rfl) k) ?_
 refine qb (fun _ k => XS.ishl X1.here hx rfl (own_e hby d44 4 rfl) rfl k) ?_
 refine qb (fun _ k => XS.istoreN X1.here hx rfl (own_e hby d44 5 rfl) rfl (l' := #[vR a0, vI (p1 <<< ((1 : Int32) &&& 31))]) rfl k) ?_
 show qG p e below _ (T1.setTop (mkF m 32 #[vR a0, vI (p1 <<< ((1 : Int32) &&& 31))] []))
 refine qb (fun _ k => XS.aloadN X1.here hx rfl (own_e hby d44 6 rfl) rfl rfl k) ?_
 refine qb (fun _ k => XS.iloadN X1.here hx rfl (own_e hby d44 7 rfl) rfl k) ?_
 refine qb (fun _ k => XS.iinc X1.here hx rfl (own_e hby d44 8 rfl) rfl (l' := #[vR a0, vI ((p1 <<< ((1 : Int32) &&& 31)) + (1 : Int32))]) rfl k) ?_
 show qG p e below _ (T1.setTop (mkF m 37 #[vR a0, vI ((p1 <<< ((1 : Int32) &&& 31)) + (1 : Int32))] [(.int (p1 <<< ((1 : Int32) &&& 31))), (.ref a0)]))
 obtain ⟨cl2, Ar2, qq2, S2, M2, H2, G2⟩ := id P_V_a0
 have hin2 : ¬ ((p1 <<< ((1 : Int32) &&& 31)) < 0 ∨ cl2.slots.size ≤ ((p1 <<< ((1 : Int32) &&& 31))).toNatClampNeg) := inb_of S2 hi_37_4
 refine qb (fun t k => X1.baloadBytes hx (j := (p1 <<< ((1 : Int32) &&& 31))) (v := (.int (fn_a0 ((p1 <<< ((1 : Int32) &&& 31))).toNatClampNeg))) (by rw [e1]; exact Ar2.1) (State.isArrayOf_alike hZ.alike Ar2.2.1) Ar2.2.2 hin2 (H2 _ (Nat.lt_of_not_le fun y => hin2 (Or.inr y))) (g := (mkF m 37 #[vR a0, vI ((p1 <<< ((1 : Int32) &&& 31)) + (1 : Int32))] [(.int (p1 <<< ((1 : Int32) &&& 31))), (.ref a0)])) rfl rfl (own_e hby d44 9 rfl) _ k) ?_
 refine qb (fun _ k => XS.sipush X1.here hx rfl (own_e hby d44 10 rfl) k) ?_
 refine qb (fun _ k => XS.iand X1.here hx rfl (own_e hby d44 11 rfl) rfl k) ?_
 obtain ⟨T3, X3, e3, st3⟩ := getS2 X1 hx hZ hown (host := "") (Or.inl (hwd 265 rfl)) Via.refl e1 P_S_HI_BYTE_SHIFT (g := (mkF m 42 #[vR a0, vI ((p1 <<< ((1 : Int32) &&& 31)) + (1 : Int32))] [(.int ((fn_a0 ((p1 <<< ((1 : Int32) &&& 31))).toNatClampNeg) &&& (255 : Int32)))])) rfl (own_e hby d44 12 rfl)
 refine qb st3 ?_
 refine qb (fun _ k => XS.ishl X3.here hx rfl (own_e hby d44 13 rfl) rfl k) ?_
 show qG p e below _ (T3.setTop (mkF m 46 #[vR a0, vI ((p1 <<< ((1 : Int32) &&& 31)) + (1 : Int32))] [(.int (((fn_a0 ((p1 <<< ((1 : Int32) &&& 31))).toNatClampNeg) &&& (255 : Int32)) <<< ((0 : Int32) &&& 31)))]))
 rw [own_ishl0]
 show qG p e below _ (T3.setTop (mkF m 46 #[vR a0, vI ((p1 <<< ((1 : Int32) &&& 31)) + (1 : Int32))] [(.int ((fn_a0 ((p1 <<< ((1 : Int32) &&& 31))).toNatClampNeg) &&& (255 : Int32)))]))
 refine qb (fun _ k => XS.aloadN X3.here hx rfl (own_e hby d44 14 rfl) rfl rfl k) ?_
 refine qb (fun _ k => XS.iloadN X3.here hx rfl (own_e hby d44 15 rfl) rfl k) ?_
 obtain ⟨cl4, Ar4, qq4, S4, M4, H4, G4⟩ := id P_V_a0
 have hin4 : ¬ (((p1 <<< ((1 : Int32) &&& 31)) + (1 : Int32)) < 0 ∨ cl4.slots.size ≤ (((p1 <<< ((1 : Int32) &&& 31)) + (1 : Int32))).toNatClampNeg) := inb_of S4 hi_48_5
 refine qb (fun t k => X3.baloadBytes hx (j := ((p1 <<< ((1 : Int32) &&& 31)) + (1 : Int32))) (v := (.int (fn_a0 (((p1 <<< ((1 : Int32) &&& 31)) + (1 : Int32))).toNatClampNeg))) (by rw [e3]; exact Ar4.1) (State.isArrayOf_alike hZ.alike Ar4.2.1) Ar4.2.2 hin4 (H4 _ (Nat.lt_of_not_le fun y => hin4 (Or.inr y))) (g := (mkF m 48 #[vR a0, vI ((p1 <<< ((1 : Int32) &&& 31)) + (1 : Int32))] [(.int ((p1 <<< ((1 : Int32) &&& 31)) + (1 : Int32))), (.ref a0), (.int ((fn_a0 ((p1 <<< ((1 : Int32) &&& 31))).toNatClampNeg) &&& (255 : Int32)))])) rfl rfl (own_e hby d44 16 rfl) _ k) ?_
 refine qb (fun _ k => XS.sipush X3.here hx rfl (own_e hby d44 17 rfl) k) ?_
 refine qb (fun _ k => XS.iand X3.here hx rfl (own_e hby d44 18 rfl) rfl k) ?_
 obtain ⟨T5, X5, e5, st5⟩ := getS2 X3 hx hZ hown (host := "") (Or.inl (hwd 266 rfl)) Via.refl e3 P_S_LO_BYTE_SHIFT (g := (mkF m 53 #[vR a0, vI ((p1 <<< ((1 : Int32) &&& 31)) + (1 : Int32))] [(.int ((fn_a0 (((p1 <<< ((1 : Int32) &&& 31)) + (1 : Int32))).toNatClampNeg) &&& (255 : Int32))), (.int ((fn_a0 ((p1 <<< ((1 : Int32) &&& 31))).toNatClampNeg) &&& (255 : Int32)))])) rfl (own_e hby d44 19 rfl)
 refine qb st5 ?_
 refine qb (fun _ k => XS.ishl X5.here hx rfl (own_e hby d44 20 rfl) rfl k) ?_
 refine qb (fun _ k => XS.ior X5.here hx rfl (own_e hby d44 21 rfl) rfl k) ?_
 refine qb (fun _ k => XS.i2c X5.here hx rfl (own_e hby d44 22 rfl) rfl k) ?_
 exact own_retN X5 hx (t := .char) hrt (by simp) (own_e hby d44 23 rfl) hlk e5 ⟨rfl, N0, rfl⟩ (by decide) (by decide)
theorem d42 : own_ds jdk_52_method_3_code [(0, .iload_n 0, 1), (1, .ifCond .ge 11, 3), (12, .iload_n 0, 1), (13, .ldc 20, 2), (15, .if_icmp .lt 40, 3), (55, .iload_n 0, 1), (56, .iconst 1, 1), (57, .ishl, 1), (58, .ireturn, 1)] = true := by decide +kernel
theorem ef_nbl (m : MethodId) (p0 : Int32) : entryFrame m #[(.int p0)] 1 = mkF m 0 #[vI p0] [] := rfl
def Qnbl (Z : State) (p0 : Int32) (h0 : Heap) (n0 : Nat) (v : Option Value) (h : Heap) (L : List Loc) : Prop := v = some (.int (p0 <<< ((1 : Int32) &&& 31))) ∧ Fr n0 L ∧ h = h0
theorem rmnbl (l : Launch) (Z : State) (A0 : Array Value) (hw : ∀ d ∈ tables_1, d.before A0 Z = true) (ws : List Jvm.Cond) (p0 : Int32) (h0 : Heap) (n0 : Nat) (Z0 : n0 ≤ h0.size) (hc1 : ¬ (p0 < (0 : Int32))) (hc15 : p0 < (1073741823 : Int32)) :
  qM l Z (⟨"java/lang/StringUTF16", "newBytesLength", "(I)I"⟩ : MethodName) jdk_52_method_3_code 1 (some .int) ws ({ frames := 0, cells := 0, slots := 0, locals := 0 } : Room) #[(.int p0)] h0 (Qnbl Z p0 h0 n0) 0 0 := own_enter (plainFor_of_name pn_putc) (fun m => ef_nbl m p0) fun p e s m below meth c s₁ hx hby hml hlk hown hnm X0 e0 hZ hrt => by
 have hwd := qw hw
 have N0 := Fr.nil n0
 show qG p e below _ (s₁.setTop (mkF m 0 #[vI p0] []))
 refine qb (fun _ k => XS.iloadN X0.here hx rfl (own_e hby d42 0 rfl) rfl k) ?_
 refine qb (fun _ k => XS.ifYes X0.here hx rfl (pc0 := 1) (pc' := 12) rfl (own_e hby d42 1 rfl) rfl ((if0 _ _).trans (flt hc1).2.1) (by decide) (by decide) k) ?_
 show qG p e below _ (s₁.setTop (mkF m 12 #[vI p0] []))
 refine qb (fun _ k => XS.iloadN X0.here hx rfl (own_e hby d42 2 rfl) rfl k) ?_
 refine qb (fun t k => X0.ldcInt hx hown (mvT hZ (hwd 260 rfl)) (g := (mkF m 13 #[vI p0] [(.int p0)])) rfl (own_e hby d42 3 rfl) _ k) ?_
 refine qb (fun _ k => XS.icmpYes X0.here hx rfl (pc0 := 15) (pc' := 55) rfl (own_e hby d42 4 rfl) rfl (tlt hc15).1 (by decide) (by decide) k) ?_
 show qG p e below _ (s₁.setTop (mkF m 55 #[vI p0] []))
 refine qb (fun _ k => XS.iloadN X0.here hx rfl (own_e hby d42 5 rfl) rfl k) ?_
 refine qb (fun _ k => XS.iconst X0.here hx rfl (own_e hby d42 6 rfl) k) ?_
 refine qb (fun _ k => XS.ishl X0.here hx rfl (own_e hby d42 7 rfl) rfl k) ?_
 exact own_retI X0 hx hrt (own_e hby d42 8 rfl) hlk e0 ⟨rfl, N0, rfl⟩ (by decide) (by decide)
theorem pd_87 : parseMethodDescriptor "(I)I" = some ⟨[.int], some .int⟩ := by decide +kernel
theorem d41 : own_ds jdk_52_method_2_code [(0, .iload_n 0, 1), (1, .invokestatic 11, 3), (4, .newarray .byte, 2), (6, .areturn, 1)] = true := by decide +kernel
theorem ef_nbf (m : MethodId) (p0 : Int32) : entryFrame m #[(.int p0)] 1 = mkF m 0 #[vI p0] [] := rfl
def Qnbf (Z : State) (p0 : Int32) (h0 : Heap) (n0 : Nat) (v : Option Value) (h : Heap) (L : List Loc) : Prop := ∃ (b2 : Addr) (k2 : ClassId), v = some (.ref b2) ∧ Fr n0 L ∧ Keep h0 h [] ∧ (n0 ≤ b2) ∧ (h0.size ≤ b2) ∧ Exa Z h b2 "[B" ∧ qA Z h b2 k2 .byte (p0 <<< ((1 : Int32) &&& 31)) (fun i => .int ((fun _ => (0 : Int32)) i))
theorem rmnbf (l : Launch) (Z : State) (A0 : Array Value) (hw : ∀ d ∈ tables_1, d.before A0 Z = true) (ws : List Jvm.Cond) (p0 : Int32) (h0 : Heap) (n0 : Nat) (Z0 : n0 ≤ h0.size) (hp_0 : ¬ (p0 < (0 : Int32))) (hp_1 : p0 < (1073741823 : Int32)) (hp_2 : ¬ ((p0 <<< ((1 : Int32) &&& 31)) < (0 : Int32))) (hp_3 : ((p0 <<< ((1 : Int32) &&& 31))).toNatClampNeg ≤ 96) :
  qM l Z (⟨"java/lang/StringUTF16", "newBytesFor", "(I)[B"⟩ : MethodName) jdk_52_method_2_code 1 (some (.array .byte)) ws ({ frames := 1, cells := 1, slots := 96, locals := 12 } : Room) #[(.int p0)] h0 (Qnbf Z p0 h0 n0) 1 96 := own_enter (plainFor_of_name pn_putc) (fun m => ef_nbf m p0) fun p e s m below meth c s₁ hx hby hml hlk hown hnm X0 e0 hZ hrt => by
 have hwd := qw hw
 have N0 := Fr.nil n0
 show qG p e below _ (s₁.setTop (mkF m 0 #[vI p0] []))
 refine qb (fun _ k => XS.iloadN X0.here hx rfl (own_e hby d41 0 rfl) rfl k) ?_
 obtain ⟨_, T1, Lc1, X1, hQ1, st1⟩ := own_cS X0 hx hZ hown hml (rmnbl l Z A0 hw [] p0 h0 n0 Z0 hp_0 hp_1) (hwd 257 rfl) (hwd 258 rfl) (hwd 243 rfl) (hwd 259 rfl) (by decide) pd_87 e0 (g := (mkF m 1 #[vI p0] [(.int p0)])) (rest := []) rfl rfl rfl rfl (own_e hby d41 1 rfl) rfl
 obtain ⟨rfl, Nq1, eq1⟩ := hQ1
 have N1 := Fr.app N0 Nq1
 refine qb st1 ?_
 show qG p e below _ (T1.setTop (mkF m 4 #[vI p0] [(.int (p0 <<< ((1 : Int32) &&& 31)))]))
 obtain ⟨T2, h2, k2, X2, e2, E2, A2, Ax2, st2⟩ := newPE X1 hx hZ (hwd 3 rfl) eq1 (g := (mkF m 4 #[vI p0] [(.int (p0 <<< ((1 : Int32) &&& 31)))])) rfl (own_e hby d41 2 rfl) rfl hp_2 (cap := 96) hp_3 (by decide) (by decide) (by decide) (ad := "[B") (by decide)
 obtain ⟨b2, g2⟩ : ∃ z, z = h0.size := ⟨_, rfl⟩
 have ge_b2 : n0 ≤ b2 := ql Z0 (Nat.le_of_eq g2.symm)
 have sz_b2 := ql (Keep.refl h0 []).1 (Nat.le_of_eq g2.symm)
 have K2 : Keep h0 h2 [] := (Keep.refl h0 []).ext E2
 have Z2 := ql Z0 E2.1
 rw [← g2] at A2 Ax2 st2
 have V2 : qA Z h2 b2 k2 .byte (p0 <<< ((1 : Int32) &&& 31)) (fun i => .int ((fun _ => (0 : Int32)) i)) := own_arfNew A2 hp_2
 refine qb st2 ?_
 show qG p e below _ (T2.setTop (mkF m 6 #[vI p0] [(.ref b2)]))
 exact own_retR X2 hx hrt (by decide) rfl (own_e hby d41 3 rfl) hlk e2 ⟨_, _, rfl, N1, K2, ge_b2, sz_b2, Ax2, V2⟩ (by decide) (by decide)
theorem pd_254 : parseMethodDescriptor "(I)[B" = some ⟨[.int], some (.array .byte)⟩ := by decide +kernel
theorem pd_261 : parseMethodDescriptor "([BII)V" = some ⟨[(.array .byte), .int, .int], none⟩ := by decide +kernel
theorem d40 : own_ds jdk_52_method_14_code [(0, .iload_n 2, 1), (1, .invokestatic 107, 3), (4, .astore_n 3, 1), (5, .iconst 0, 1), (6, .istore 4, 2), (8, .iload 4, 2), (10, .iload_n 2, 1), (11, .if_icmp .ge 21, 3), (14, .aload_n 3, 1), (15, .iload 4, 2), (17, .aload_n 0, 1), (18, .iload_n 1, 1), (19, .caload, 1), (20, .invokestatic 111, 3), (23, .iinc 1 1, 3), (26, .iinc 4 1, 3), (29, .goto (-21), 3), (32, .aload_n 3, 1), (33, .areturn, 1)] = true := by decide +kernel
theorem ef_tob (m : MethodId) (a0 : Addr) (p2 : Int32) : entryFrame m #[(.ref a0), (.int 0), (.int p2)] 5 = mkF m 0 #[vR a0, vI 0, vI p2, .unset, .unset] [] := rfl
theorem ob_tob_1 (fn_a0 : Nat → Int32) (p2 z18 z19 : Int32) (gg20 : Nat → Int32) (hb : 0 ≤ (p2).toInt ∧ (p2).toInt ≤ 48) (hp_1 : ¬ (p2 < (0 : Int32))) (hp_2 : p2 < (1073741823 : Int32)) (hp_3 : ¬ ((p2 <<< ((1 : Int32) &&& 31)) < (0 : Int32))) (hp_4 : ((p2 <<< ((1 : Int32) &&& 31))).toNatClampNeg ≤ 96) (hi32 : own_tbI fn_a0 p2 z18 z19 gg20) (c34 : z19 < p2) : (¬ z18 < 0) ∧ z18 < p2 := by
  exact own_tbIn hi32 c34
theorem ob_tob_2 (fn_a0 : Nat → Int32) (p2 z18 z19 : Int32) (gg20 : Nat → Int32) (hb : 0 ≤ (p2).toInt ∧ (p2).toInt ≤ 48) (hp_1 : ¬ (p2 < (0 : Int32))) (hp_2 : p2 < (1073741823 : Int32)) (hp_3 : ¬ ((p2 <<< ((1 : Int32) &&& 31)) < (0 : Int32))) (hp_4 : ((p2 <<< ((1 : Int32) &&& 31))).toNatClampNeg ≤ 96) (hi32 : own_tbI fn_a0 p2 z18 z19 gg20) (c34 : z19 < p2) : (¬ (z19 <<< ((1 : Int32) &&& 31)) < 0) ∧ (z19 <<< ((1 : Int32) &&& 31)) < (p2 <<< ((1 : Int32) &&& 31)) := by
  exact own_tbP hi32 c34
theorem ob_tob_3 (fn_a0 : Nat → Int32) (p2 z18 z19 : Int32) (gg20 : Nat → Int32) (hb : 0 ≤ (p2).toInt ∧ (p2).toInt ≤ 48) (hp_1 : ¬ (p2 < (0 : Int32))) (hp_2 : p2 < (1073741823 : Int32)) (hp_3 : ¬ ((p2 <<< ((1 : Int32) &&& 31)) < (0 : Int32))) (hp_4 : ((p2 <<< ((1 : Int32) &&& 31))).toNatClampNeg ≤ 96) (hi32 : own_tbI fn_a0 p2 z18 z19 gg20) (c34 : z19 < p2) : (¬ ((z19 <<< ((1 : Int32) &&& 31)) + (1 : Int32)) < 0) ∧ ((z19 <<< ((1 : Int32) &&& 31)) + (1 : Int32)) < (p2 <<< ((1 : Int32) &&& 31)) := by
  exact own_tbQ hi32 c34
theorem ob_tob_4 (fn_a0 : Nat → Int32) (p2 z18 z19 : Int32) (gg20 : Nat → Int32) (hb : 0 ≤ (p2).toInt ∧ (p2).toInt ≤ 48) (hp_1 : ¬ (p2 < (0 : Int32))) (hp_2 : p2 < (1073741823 : Int32)) (hp_3 : ¬ ((p2 <<< ((1 : Int32) &&& 31)) < (0 : Int32))) (hp_4 : ((p2 <<< ((1 : Int32) &&& 31))).toNatClampNeg ≤ 96) (hi32 : own_tbI fn_a0 p2 z18 z19 gg20) (c34 : z19 < p2) : (p2).toNatClampNeg - ((z19 + (1 : Int32))).toNatClampNeg < (p2).toNatClampNeg - (z19).toNatClampNeg := by
  exact own_tbL hi32 c34
theorem ob_tob_5 (fn_a0 : Nat → Int32) (p2 z18 z19 : Int32) (gg20 : Nat → Int32) (hb : 0 ≤ (p2).toInt ∧ (p2).toInt ≤ 48) (hp_1 : ¬ (p2 < (0 : Int32))) (hp_2 : p2 < (1073741823 : Int32)) (hp_3 : ¬ ((p2 <<< ((1 : Int32) &&& 31)) < (0 : Int32))) (hp_4 : ((p2 <<< ((1 : Int32) &&& 31))).toNatClampNeg ≤ 96) (hi32 : own_tbI fn_a0 p2 z18 z19 gg20) (c34 : z19 < p2) : own_tbI fn_a0 p2 (z18 + (1 : Int32)) (z19 + (1 : Int32)) (qu (qu gg20 ((z19 <<< ((1 : Int32) &&& 31))).toNatClampNeg (nar .byte ((fn_a0 (z18).toNatClampNeg).toInt8.toInt32))) (((z19 <<< ((1 : Int32) &&& 31)) + (1 : Int32))).toNatClampNeg (nar .byte (((fn_a0 (z18).toNatClampNeg) >>> ((8 : Int32) &&& 31)).toInt8.toInt32))) := by
  exact own_tbB hi32 c34
theorem ob_tob_6 (fn_a0 : Nat → Int32) (p2 z18 z19 : Int32) (gg20 : Nat → Int32) (hb : 0 ≤ (p2).toInt ∧ (p2).toInt ≤ 48) (hp_1 : ¬ (p2 < (0 : Int32))) (hp_2 : p2 < (1073741823 : Int32)) (hp_3 : ¬ ((p2 <<< ((1 : Int32) &&& 31)) < (0 : Int32))) (hp_4 : ((p2 <<< ((1 : Int32) &&& 31))).toNatClampNeg ≤ 96) (hi32 : own_tbI fn_a0 p2 z18 z19 gg20) (c34 : ¬ (z19 < p2)) : own_u16 fn_a0 gg20 (p2).toNatClampNeg := by
  exact own_tbE hi32 c34
theorem ob_tob_7 (fn_a0 : Nat → Int32) (p2 : Int32) (hb : 0 ≤ (p2).toInt ∧ (p2).toInt ≤ 48) (hp_1 : ¬ (p2 < (0 : Int32))) (hp_2 : p2 < (1073741823 : Int32)) (hp_3 : ¬ ((p2 <<< ((1 : Int32) &&& 31)) < (0 : Int32))) (hp_4 : ((p2 <<< ((1 : Int32) &&& 31))).toNatClampNeg ≤ 96) : own_tbI fn_a0 p2 (0 : Int32) (0 : Int32) (fun _ => (0 : Int32)) := by
  exact own_tbS hb
def Qtob (Z : State) (k_a0 : ClassId) (fn_a0 : Nat → Int32) (a0 : Addr) (p2 : Int32) (h0 : Heap) (n0 : Nat) (v : Option Value) (h : Heap) (L : List Loc) : Prop := ∃ (rr : Addr) (kk5001 : ClassId) (gg5002 : Nat → Int32), v = some (.ref rr) ∧ Fr n0 L ∧ Keep h0 h [] ∧ (n0 ≤ rr) ∧ (h0.size ≤ rr) ∧ Exa Z h rr "[B" ∧ qA Z h rr kk5001 .byte (p2 <<< ((1 : Int32) &&& 31)) (fun i => .int (gg5002 i)) ∧ (own_u16 fn_a0 gg5002 (p2).toNatClampNeg)
theorem rmtob (l : Launch) (Z : State) (A0 : Array Value) (hw : ∀ d ∈ tables_1, d.before A0 Z = true) (ws : List Jvm.Cond) (k_a0 : ClassId) (fn_a0 : Nat → Int32) (a0 : Addr) (p2 : Int32) (h0 : Heap) (n0 : Nat) (Z0 : n0 ≤ h0.size) (P_V_a0 : qA Z h0 a0 k_a0 .char p2 (fun i => .int (fn_a0 i))) (P_S_UD : Sta Z h0 cU "$assertionsDisabled" "Z" (.int 1)) (P_S_HI_BYTE_SHIFT : Sta Z h0 cU "HI_BYTE_SHIFT" "I" (.int 0)) (P_S_LO_BYTE_SHIFT : Sta Z h0 cU "LO_BYTE_SHIFT" "I" (.int 8)) (hb : 0 ≤ (p2).toInt ∧ (p2).toInt ≤ 48) (hp_1 : ¬ (p2 < (0 : Int32))) (hp_2 : p2 < (1073741823 : Int32)) (hp_3 : ¬ ((p2 <<< ((1 : Int32) &&& 31)) < (0 : Int32))) (hp_4 : ((p2 <<< ((1 : Int32) &&& 31))).toNatClampNeg ≤ 96) :
  qM l Z (⟨"java/lang/StringUTF16", "toBytes", "([CII)[B"⟩ : MethodName) jdk_52_method_14_code 5 (some (.array .byte)) ws ({ frames := 2, cells := 1, slots := 96, locals := 24 } : Room) #[(.ref a0), (.int 0), (.int p2)] h0 (Qtob Z k_a0 fn_a0 a0 p2 h0 n0) 1 96 := own_enter (plainFor_of_name pn_putc) (fun m => ef_tob m a0 p2) fun p e s m below meth c s₁ hx hby hml hlk hown hnm X0 e0 hZ hrt => by
 have hwd := qw hw
 have N0 := Fr.nil n0
 show qG p e below _ (s₁.setTop (mkF m 0 #[vR a0, vI 0, vI p2, .unset, .unset] []))
 refine qb (fun _ k => XS.iloadN X0.here hx rfl (own_e hby d40 0 rfl) rfl k) ?_
 obtain ⟨_, T1, Lc1, X1, hQ1, st1⟩ := own_cS X0 hx hZ hown hml (rmnbf l Z A0 hw [] p2 h0 n0 Z0 hp_1 hp_2 hp_3 hp_4) (hwd 254 rfl) (hwd 255 rfl) (hwd 243 rfl) (hwd 256 rfl) (by decide) pd_254 e0 (g := (mkF m 1 #[vR a0, vI 0, vI p2, .unset, .unset] [(.int p2)])) (rest := []) rfl rfl rfl rfl (own_e hby d40 1 rfl) rfl
 obtain ⟨b2, b3, rfl, Nq1, Kq1, hp4, hp5, F6, F7⟩ := hQ1
 have N1 := Fr.app N0 Nq1
 have K1 : Keep h0 T1.heap [] := (Keep.refl h0 []).trans Kq1 (all0)
 have Z1 := ql Z0 Kq1.1
 have sz_b2 := ql (Keep.refl h0 []).1 hp5
 refine qb st1 ?_
 show qG p e below _ (T1.setTop (mkF m 4 #[vR a0, vI 0, vI p2, .unset, .unset] [(.ref b2)]))
 refine qb (fun _ k => XS.astoreN X1.here hx rfl (own_e hby d40 2 rfl) rfl rfl (l' := #[vR a0, vI 0, vI p2, vR b2, .unset]) rfl k) ?_
 show qG p e below _ (T1.setTop (mkF m 5 #[vR a0, vI 0, vI p2, vR b2, .unset] []))
 refine qb (fun _ k => XS.iconst X1.here hx rfl (own_e hby d40 3 rfl) k) ?_
 refine qb (fun _ k => XS.istore X1.here hx rfl (own_e hby d40 4 rfl) rfl (l' := #[vR a0, vI 0, vI p2, vR b2, vI 0]) rfl k) ?_
 show qG p e below _ (T1.setTop (mkF m 8 #[vR a0, vI 0, vI p2, vR b2, vI 0] []))
 have nl21 : a0 ≠ b2 := (qn P_V_a0.lt hp5)
 have F22 := (P_V_a0.keep Kq1 nin0)
 have F23 := qk P_S_UD Kq1 all0
 have F24 := qk P_S_HI_BYTE_SHIFT Kq1 all0
 have F25 := qk P_S_LO_BYTE_SHIFT Kq1 all0
 have LP16 : ∀ (fu17 : Nat) (T8 : State) (L9 : List Loc) (h10 : Heap) (z18 z19 : Int32) (gg20 : Nat → Int32), fu17 = (p2).toNatClampNeg - (z19).toNatClampNeg → Stand p l e ({ frames := 2, cells := 1, slots := 96, locals := 24 } : Room) s m #[(.ref a0), (.int 0), (.int p2)] below meth c T8 L9 1 96 → T8.heap = h10 → Fr n0 L9 → Keep h0 h10 [] → n0 ≤ h10.size → qA Z h10 a0 k_a0 .char p2 (fun i => .int (fn_a0 i)) → Sta Z h10 cU "$assertionsDisabled" "Z" (.int 1) → Sta Z h10 cU "HI_BYTE_SHIFT" "I" (.int 0) → Sta Z h10 cU "LO_BYTE_SHIFT" "I" (.int 8) → Exa Z h10 b2 "[B" → qA Z h10 b2 b3 .byte (p2 <<< ((1 : Int32) &&& 31)) (fun i => .int (gg20 i)) → (own_tbI fn_a0 p2 z18 z19 gg20) → qG p e below (own_Fin s 1 96 (Qtob Z k_a0 fn_a0 a0 p2 h0 n0)) (T8.setTop (mkF m 8 #[vR a0, vI z18, vI p2, vR b2, vI z19] [])) := by
  intro fu17
  induction fu17 using Nat.strongRecOn with
  | _ fu17 ih =>
   intro T8 L9 h10 z18 z19 gg20 hfu33 X11 e12 N13 K14 Z15 F26 F27 F28 F29 F30 F31 hi32
   refine qb (fun _ k => XS.iload X11.here hx rfl (own_e hby d40 5 rfl) rfl k) ?_
   refine qb (fun _ k => XS.iloadN X11.here hx rfl (own_e hby d40 6 rfl) rfl k) ?_
   by_cases c34 : z19 < p2
   ·skip
    refine qb (fun _ k => XS.icmpNo X11.here hx rfl (own_e hby d40 7 rfl) rfl (tlt c34).2.1 k) ?_
    show qG p e below _ (T8.setTop (mkF m 14 #[vR a0, vI z18, vI p2, vR b2, vI z19] []))
    refine qb (fun _ k => XS.aloadN X11.here hx rfl (own_e hby d40 8 rfl) rfl rfl k) ?_
    refine qb (fun _ k => XS.iload X11.here hx rfl (own_e hby d40 9 rfl) rfl k) ?_
    refine qb (fun _ k => XS.aloadN X11.here hx rfl (own_e hby d40 10 rfl) rfl rfl k) ?_
    refine qb (fun _ k => XS.iloadN X11.here hx rfl (own_e hby d40 11 rfl) rfl k) ?_
    obtain ⟨cl35, Ar35, qq35, S35, M35, H35, G35⟩ := id F26
    have hin35 : ¬ (z18 < 0 ∨ cl35.slots.size ≤ (z18).toNatClampNeg) := inb_of S35 (ob_tob_1 fn_a0 p2 z18 z19 gg20 hb hp_1 hp_2 hp_3 hp_4 hi32 c34)
    refine qb (fun t k => X11.caload hx (j := z18) (v := (.int (fn_a0 (z18).toNatClampNeg))) (by rw [e12]; exact Ar35.1) (State.isArrayOf_alike hZ.alike Ar35.2.1) Ar35.2.2 hin35 (H35 _ (Nat.lt_of_not_le fun y => hin35 (Or.inr y))) (g := (mkF m 19 #[vR a0, vI z18, vI p2, vR b2, vI z19] [(.int z18), (.ref a0), (.int z19), (.ref b2)])) rfl rfl (own_e hby d40 12 rfl) _ k) ?_
    obtain ⟨_, T36, Lc36, X36, hQ36, st36⟩ := own_cS X11 hx hZ hown hml (rmputc l Z A0 hw [] b3 (p2 <<< ((1 : Int32) &&& 31)) gg20 b2 z19 (fn_a0 (z18).toNatClampNeg) h10 n0 Z15 F31 F27 F28 F29 (ob_tob_2 fn_a0 p2 z18 z19 gg20 hb hp_1 hp_2 hp_3 hp_4 hi32 c34) hp4 (ob_tob_3 fn_a0 p2 z18 z19 gg20 hb hp_1 hp_2 hp_3 hp_4 hi32 c34)) (hwd 261 rfl) (hwd 262 rfl) (hwd 243 rfl) (hwd 263 rfl) (by decide) pd_261 e12 (g := (mkF m 20 #[vR a0, vI z18, vI p2, vR b2, vI z19] [(.int (fn_a0 (z18).toNatClampNeg)), (.int z19), (.ref b2)])) (rest := []) rfl rfl rfl rfl (own_e hby d40 13 rfl) rfl
    obtain ⟨rfl, Nq36, Kq36, F37⟩ := hQ36
    have N36 := Fr.app N13 Nq36
    have K36 : Keep h0 T36.heap [] := K14.trans Kq36 ((allS (Or.inr sz_b2) all0))
    have Z36 := ql Z15 Kq36.1
    refine qb st36 ?_
    show qG p e below _ (T36.setTop (mkF m 23 #[vR a0, vI z18, vI p2, vR b2, vI z19] []))
    refine qb (fun _ k => XS.iinc X36.here hx rfl (own_e hby d40 14 rfl) rfl (l' := #[vR a0, vI (z18 + (1 : Int32)), vI p2, vR b2, vI z19]) rfl k) ?_
    show qG p e below _ (T36.setTop (mkF m 26 #[vR a0, vI (z18 + (1 : Int32)), vI p2, vR b2, vI z19] []))
    refine qb (fun _ k => XS.iinc X36.here hx rfl (own_e hby d40 15 rfl) rfl (l' := #[vR a0, vI (z18 + (1 : Int32)), vI p2, vR b2, vI (z19 + (1 : Int32))]) rfl k) ?_
    show qG p e below _ (T36.setTop (mkF m 29 #[vR a0, vI (z18 + (1 : Int32)), vI p2, vR b2, vI (z19 + (1 : Int32))] []))
    refine qb (fun _ k => XS.goto X36.here hx rfl (pc0 := 29) (pc' := 8) rfl (own_e hby d40 16 rfl) (by decide) (by decide) k) ?_
    show qG p e below _ (T36.setTop (mkF m 8 #[vR a0, vI (z18 + (1 : Int32)), vI p2, vR b2, vI (z19 + (1 : Int32))] []))
    have F38 := (F26.keep Kq36 (ninS nl21 nin0))
    have F39 := qk F27 Kq36 (allS (qx F30) all0)
    have F40 := qk F28 Kq36 (allS (qx F30) all0)
    have F41 := qk F29 Kq36 (allS (qx F30) all0)
    have F42 := (F30.keep Kq36)
    exact ih _ (by rw [hfu33]; exact (ob_tob_4 fn_a0 p2 z18 z19 gg20 hb hp_1 hp_2 hp_3 hp_4 hi32 c34)) _ _ _ (z18 + (1 : Int32)) (z19 + (1 : Int32)) (qu (qu gg20 ((z19 <<< ((1 : Int32) &&& 31))).toNatClampNeg (nar .byte ((fn_a0 (z18).toNatClampNeg).toInt8.toInt32))) (((z19 <<< ((1 : Int32) &&& 31)) + (1 : Int32))).toNatClampNeg (nar .byte (((fn_a0 (z18).toNatClampNeg) >>> ((8 : Int32) &&& 31)).toInt8.toInt32))) rfl X36 rfl N36 K36 Z36 F38 F39 F40 F41 F42 F37 (ob_tob_5 fn_a0 p2 z18 z19 gg20 hb hp_1 hp_2 hp_3 hp_4 hi32 c34)
   ·skip
    refine qb (fun _ k => XS.icmpYes X11.here hx rfl (pc0 := 11) (pc' := 32) rfl (own_e hby d40 7 rfl) rfl (flt c34).2.1 (by decide) (by decide) k) ?_
    show qG p e below _ (T8.setTop (mkF m 32 #[vR a0, vI z18, vI p2, vR b2, vI z19] []))
    refine qb (fun _ k => XS.aloadN X11.here hx rfl (own_e hby d40 17 rfl) rfl rfl k) ?_
    exact own_retR X11 hx hrt (by decide) rfl (own_e hby d40 18 rfl) hlk e12 ⟨b2, b3, gg20, rfl, N13, K14, hp4, sz_b2, F30, F31, (ob_tob_6 fn_a0 p2 z18 z19 gg20 hb hp_1 hp_2 hp_3 hp_4 hi32 c34)⟩ (by decide) (by decide)
 exact LP16 _ _ _ _ (0 : Int32) (0 : Int32) (fun _ => (0 : Int32)) rfl X1 rfl N1 K1 Z1 F22 F23 F24 F25 F6 F7 (ob_tob_7 fn_a0 p2 hb hp_1 hp_2 hp_3 hp_4)
theorem d38 : own_ds jdk_52_method_21_code [(0, .iconst 0, 1), (1, .istore 5, 2), (3, .iload 5, 2), (5, .iload 4, 2), (7, .if_icmp .ge 37, 3), (10, .aload_n 0, 1), (11, .iload_n 1, 1), (12, .caload, 1), (13, .istore 6, 2), (15, .iload 6, 2), (17, .sipush 255, 3), (20, .if_icmp .le 6, 3), (23, .iload 5, 2), (25, .ireturn, 1), (26, .aload_n 2, 1), (27, .iload_n 3, 1), (28, .iload 6, 2), (30, .i2b, 1), (31, .bastore, 1), (32, .iinc 1 1, 3), (35, .iinc 3 1, 3), (38, .iinc 5 1, 3), (41, .goto (-38), 3), (44, .iload 4, 2), (46, .ireturn, 1)] = true := by decide +kernel
theorem ef_cmp (m : MethodId) (a0 a2 : Addr) (p4 : Int32) : entryFrame m #[(.ref a0), (.int 0), (.ref a2), (.int 0), (.int p4)] 7 = mkF m 0 #[vR a0, vI 0, vR a2, vI 0, vI p4, .unset, .unset] [] := rfl
theorem ob_cmp_8 (fn_a0 : Nat → Int32) (p4 z11 : Int32) (z12 z13 : Int32) (gg14 : Nat → Int32) (hb : 0 ≤ (p4).toInt ∧ (p4).toInt ≤ 48) (hi19 : own_cmI fn_a0 p4 z11 z12 z13 gg14) (c22 : z13 < p4) : (¬ z11 < 0) ∧ z11 < p4 := by
  exact own_cmIn hi19 c22
theorem ob_cmp_9 (fn_a0 : Nat → Int32) (p4 z11 : Int32) (z12 z13 : Int32) (gg14 : Nat → Int32) (hb : 0 ≤ (p4).toInt ∧ (p4).toInt ≤ 48) (hi19 : own_cmI fn_a0 p4 z11 z12 z13 gg14) (c22 : z13 < p4) (c24 : (255 : Int32) < (fn_a0 (z11).toNatClampNeg)) : own_cmp fn_a0 gg14 p4 z13 := by
  exact own_cmF hi19 c22 c24
theorem ob_cmp_10 (fn_a0 : Nat → Int32) (p4 z11 : Int32) (z12 z13 : Int32) (gg14 : Nat → Int32) (hb : 0 ≤ (p4).toInt ∧ (p4).toInt ≤ 48) (hi19 : own_cmI fn_a0 p4 z11 z12 z13 gg14) (c22 : z13 < p4) (c24 : ¬ ((255 : Int32) < (fn_a0 (z11).toNatClampNeg))) : (¬ z12 < 0) ∧ z12 < p4 := by
  exact own_cmJn hi19 c22
theorem ob_cmp_11 (fn_a0 : Nat → Int32) (p4 z11 : Int32) (z12 z13 : Int32) (gg14 : Nat → Int32) (hb : 0 ≤ (p4).toInt ∧ (p4).toInt ≤ 48) (hi19 : own_cmI fn_a0 p4 z11 z12 z13 gg14) (c22 : z13 < p4) (c24 : ¬ ((255 : Int32) < (fn_a0 (z11).toNatClampNeg))) : (p4).toNatClampNeg - ((z13 + (1 : Int32))).toNatClampNeg < (p4).toNatClampNeg - (z13).toNatClampNeg := by
  exact own_cmL hi19 c22 c24
theorem ob_cmp_12 (fn_a0 : Nat → Int32) (p4 z11 : Int32) (z12 z13 : Int32) (gg14 : Nat → Int32) (hb : 0 ≤ (p4).toInt ∧ (p4).toInt ≤ 48) (hi19 : own_cmI fn_a0 p4 z11 z12 z13 gg14) (c22 : z13 < p4) (c24 : ¬ ((255 : Int32) < (fn_a0 (z11).toNatClampNeg))) : own_cmI fn_a0 p4 (z11 + (1 : Int32)) (z12 + (1 : Int32)) (z13 + (1 : Int32)) (qu gg14 (z12).toNatClampNeg (nar .byte ((fn_a0 (z11).toNatClampNeg).toInt8.toInt32))) := by
  exact own_cmB hi19 c22 c24
theorem ob_cmp_13 (fn_a0 : Nat → Int32) (p4 z11 : Int32) (z12 z13 : Int32) (gg14 : Nat → Int32) (hb : 0 ≤ (p4).toInt ∧ (p4).toInt ≤ 48) (hi19 : own_cmI fn_a0 p4 z11 z12 z13 gg14) (c22 : ¬ (z13 < p4)) : own_cmp fn_a0 gg14 p4 p4 := by
  exact own_cmE hi19 c22
theorem ob_cmp_14 (fn_a0 : Nat → Int32) (p4 z11 : Int32) (z12 z13 : Int32) (gg14 : Nat → Int32) (hb : 0 ≤ (p4).toInt ∧ (p4).toInt ≤ 48) (hi19 : own_cmI fn_a0 p4 z11 z12 z13 gg14) (c28 : z13 < p4) : (¬ z11 < 0) ∧ z11 < p4 := by
  exact own_cmIn hi19 c28
theorem ob_cmp_15 (fn_a0 : Nat → Int32) (p4 z11 : Int32) (z12 z13 : Int32) (gg14 : Nat → Int32) (hb : 0 ≤ (p4).toInt ∧ (p4).toInt ≤ 48) (hi19 : own_cmI fn_a0 p4 z11 z12 z13 gg14) (c28 : z13 < p4) (c30 : (255 : Int32) < (fn_a0 (z11).toNatClampNeg)) : own_cmp fn_a0 gg14 p4 z13 := by
  exact own_cmF hi19 c28 c30
theorem ob_cmp_16 (fn_a0 : Nat → Int32) (p4 z11 : Int32) (z12 z13 : Int32) (gg14 : Nat → Int32) (hb : 0 ≤ (p4).toInt ∧ (p4).toInt ≤ 48) (hi19 : own_cmI fn_a0 p4 z11 z12 z13 gg14) (c28 : z13 < p4) (c30 : ¬ ((255 : Int32) < (fn_a0 (z11).toNatClampNeg))) : (¬ z12 < 0) ∧ z12 < p4 := by
  exact own_cmJn hi19 c28
theorem ob_cmp_17 (fn_a0 : Nat → Int32) (p4 z11 : Int32) (z12 z13 : Int32) (gg14 : Nat → Int32) (hb : 0 ≤ (p4).toInt ∧ (p4).toInt ≤ 48) (hi19 : own_cmI fn_a0 p4 z11 z12 z13 gg14) (c28 : z13 < p4) (c30 : ¬ ((255 : Int32) < (fn_a0 (z11).toNatClampNeg))) : (p4).toNatClampNeg - ((z13 + (1 : Int32))).toNatClampNeg < (p4).toNatClampNeg - (z13).toNatClampNeg := by
  exact own_cmL hi19 c28 c30
theorem ob_cmp_18 (fn_a0 : Nat → Int32) (p4 z11 : Int32) (z12 z13 : Int32) (gg14 : Nat → Int32) (hb : 0 ≤ (p4).toInt ∧ (p4).toInt ≤ 48) (hi19 : own_cmI fn_a0 p4 z11 z12 z13 gg14) (c28 : z13 < p4) (c30 : ¬ ((255 : Int32) < (fn_a0 (z11).toNatClampNeg))) : own_cmI fn_a0 p4 (z11 + (1 : Int32)) (z12 + (1 : Int32)) (z13 + (1 : Int32)) (qu gg14 (z12).toNatClampNeg (nar .byte ((fn_a0 (z11).toNatClampNeg).toInt8.toInt32))) := by
  exact own_cmB hi19 c28 c30
theorem ob_cmp_19 (fn_a0 : Nat → Int32) (p4 z11 : Int32) (z12 z13 : Int32) (gg14 : Nat → Int32) (hb : 0 ≤ (p4).toInt ∧ (p4).toInt ≤ 48) (hi19 : own_cmI fn_a0 p4 z11 z12 z13 gg14) (c28 : ¬ (z13 < p4)) : own_cmp fn_a0 gg14 p4 p4 := by
  exact own_cmE hi19 c28
theorem ob_cmp_20 (fn_a0 fn_a2 : Nat → Int32) (p4 : Int32) (hb : 0 ≤ (p4).toInt ∧ (p4).toInt ≤ 48) : own_cmI fn_a0 p4 (0 : Int32) (0 : Int32) (0 : Int32) fn_a2 := by
  exact own_cmS hb
def Qcmp (Z : State) (k_a0 : ClassId) (fn_a0 : Nat → Int32) (k_a2 : ClassId) (fn_a2 : Nat → Int32) (a0 a2 : Addr) (p4 : Int32) (h0 : Heap) (n0 : Nat) (v : Option Value) (h : Heap) (L : List Loc) : Prop := ∃ (zz : Int32) (gg5001 : Nat → Int32), v = some (.int zz) ∧ Fr n0 L ∧ Keep h0 h [a2] ∧ qA Z h a2 k_a2 .byte p4 (fun i => .int (gg5001 i)) ∧ (own_cmp fn_a0 gg5001 p4 zz)
theorem rmcmp (l : Launch) (Z : State) (A0 : Array Value) (hw : ∀ d ∈ tables_1, d.before A0 Z = true) (ws : List Jvm.Cond) (k_a0 : ClassId) (fn_a0 : Nat → Int32) (k_a2 : ClassId) (fn_a2 : Nat → Int32) (a0 a2 : Addr) (p4 : Int32) (h0 : Heap) (n0 : Nat) (Z0 : n0 ≤ h0.size) (P_V_a0 : qA Z h0 a0 k_a0 .char p4 (fun i => .int (fn_a0 i))) (P_V_a2 : qA Z h0 a2 k_a2 .byte p4 (fun i => .int (fn_a2 i))) (hb : 0 ≤ (p4).toInt ∧ (p4).toInt ≤ 48) (ne_a0_a2 : a0 ≠ a2) (g_a2 : n0 ≤ a2) :
  qM l Z (⟨"java/lang/StringUTF16", "compress", "([CI[BII)I"⟩ : MethodName) jdk_52_method_21_code 7 (some .int) ws ({ frames := 0, cells := 0, slots := 0, locals := 0 } : Room) #[(.ref a0), (.int 0), (.ref a2), (.int 0), (.int p4)] h0 (Qcmp Z k_a0 fn_a0 k_a2 fn_a2 a0 a2 p4 h0 n0) 0 0 := own_enter (plainFor_of_name pn_putc) (fun m => ef_cmp m a0 a2 p4) fun p e s m below meth c s₁ hx hby hml hlk hown hnm X0 e0 hZ hrt => by
 have hwd := qw hw
 have N0 := Fr.nil n0
 show qG p e below _ (s₁.setTop (mkF m 0 #[vR a0, vI 0, vR a2, vI 0, vI p4, .unset, .unset] []))
 refine qb (fun _ k => XS.iconst X0.here hx rfl (own_e hby d38 0 rfl) k) ?_
 refine qb (fun _ k => XS.istore X0.here hx rfl (own_e hby d38 1 rfl) rfl (l' := #[vR a0, vI 0, vR a2, vI 0, vI p4, vI 0, .unset]) rfl k) ?_
 show qG p e below _ (s₁.setTop (mkF m 3 #[vR a0, vI 0, vR a2, vI 0, vI p4, vI 0, .unset] []))
 have LP9 : ∀ (fu10 : Nat) (T1 : State) (L2 : List Loc) (h3 : Heap) (z11 z12 z13 : Int32) (gg14 : Nat → Int32) (sl15 : Slot), fu10 = (p4).toNatClampNeg - (z13).toNatClampNeg → Stand p l e ({ frames := 0, cells := 0, slots := 0, locals := 0 } : Room) s m #[(.ref a0), (.int 0), (.ref a2), (.int 0), (.int p4)] below meth c T1 L2 0 0 → T1.heap = h3 → Fr n0 L2 → Keep h0 h3 [a2] → n0 ≤ h3.size → qA Z h3 a0 k_a0 .char p4 (fun i => .int (fn_a0 i)) → qA Z h3 a2 k_a2 .byte p4 (fun i => .int (gg14 i)) → (sl15 = .unset ∨ ∃ c : Int32, sl15 = .val (.int c)) → (own_cmI fn_a0 p4 z11 z12 z13 gg14) → qG p e below (own_Fin s 0 0 (Qcmp Z k_a0 fn_a0 k_a2 fn_a2 a0 a2 p4 h0 n0)) (T1.setTop (mkF m 3 #[vR a0, vI z11, vR a2, vI z12, vI p4, vI z13, sl15] [])) := by
  intro fu10
  induction fu10 using Nat.strongRecOn with
  | _ fu10 ih =>
   intro T1 L2 h3 z11 z12 z13 gg14 sl15 hfu20 X4 e5 N6 K7 Z8 F17 F18 hd16 hi19
   rcases hd16 with rfl | ⟨cd21, rfl⟩
   ·skip
    show qG p e below _ (T1.setTop (mkF m 3 #[vR a0, vI z11, vR a2, vI z12, vI p4, vI z13, .unset] []))
    refine qb (fun _ k => XS.iload X4.here hx rfl (own_e hby d38 2 rfl) rfl k) ?_
    refine qb (fun _ k => XS.iload X4.here hx rfl (own_e hby d38 3 rfl) rfl k) ?_
    by_cases c22 : z13 < p4
    ·skip
     refine qb (fun _ k => XS.icmpNo X4.here hx rfl (own_e hby d38 4 rfl) rfl (tlt c22).2.1 k) ?_
     show qG p e below _ (T1.setTop (mkF m 10 #[vR a0, vI z11, vR a2, vI z12, vI p4, vI z13, .unset] []))
     refine qb (fun _ k => XS.aloadN X4.here hx rfl (own_e hby d38 5 rfl) rfl rfl k) ?_
     refine qb (fun _ k => XS.iloadN X4.here hx rfl (own_e hby d38 6 rfl) rfl k) ?_
     obtain ⟨cl23, Ar23, qq23, S23, M23, H23, G23⟩ := id F17
     have hin23 : ¬ (z11 < 0 ∨ cl23.slots.size ≤ (z11).toNatClampNeg) := inb_of S23 (ob_cmp_8 fn_a0 p4 z11 z12 z13 gg14 hb hi19 c22)
     refine qb (fun t k => X4.caload hx (j := z11) (v := (.int (fn_a0 (z11).toNatClampNeg))) (by rw [e5]; exact Ar23.1) (State.isArrayOf_alike hZ.alike Ar23.2.1) Ar23.2.2 hin23 (H23 _ (Nat.lt_of_not_le fun y => hin23 (Or.inr y))) (g := (mkF m 12 #[vR a0, vI z11, vR a2, vI z12, vI p4, vI z13, .unset] [(.int z11), (.ref a0)])) rfl rfl (own_e hby d38 7 rfl) _ k) ?_
     refine qb (fun _ k => XS.istore X4.here hx rfl (own_e hby d38 8 rfl) rfl (l' := #[vR a0, vI z11, vR a2, vI z12, vI p4, vI z13, vI (fn_a0 (z11).toNatClampNeg)]) rfl k) ?_
     show qG p e below _ (T1.setTop (mkF m 15 #[vR a0, vI z11, vR a2, vI z12, vI p4, vI z13, vI (fn_a0 (z11).toNatClampNeg)] []))
     refine qb (fun _ k => XS.iload X4.here hx rfl (own_e hby d38 9 rfl) rfl k) ?_
     refine qb (fun _ k => XS.sipush X4.here hx rfl (own_e hby d38 10 rfl) k) ?_
     by_cases c24 : (255 : Int32) < (fn_a0 (z11).toNatClampNeg)
     ·skip
      refine qb (fun _ k => XS.icmpNo X4.here hx rfl (own_e hby d38 11 rfl) rfl (tlt c24).2.2.2 k) ?_
      show qG p e below _ (T1.setTop (mkF m 23 #[vR a0, vI z11, vR a2, vI z12, vI p4, vI z13, vI (fn_a0 (z11).toNatClampNeg)] []))
      refine qb (fun _ k => XS.iload X4.here hx rfl (own_e hby d38 12 rfl) rfl k) ?_
      exact own_retI X4 hx hrt (own_e hby d38 13 rfl) hlk e5 ⟨z13, gg14, rfl, N6, K7, F18, (ob_cmp_9 fn_a0 p4 z11 z12 z13 gg14 hb hi19 c22 c24)⟩ (by decide) (by decide)
     ·skip
      refine qb (fun _ k => XS.icmpYes X4.here hx rfl (pc0 := 20) (pc' := 26) rfl (own_e hby d38 11 rfl) rfl (flt c24).2.2.2 (by decide) (by decide) k) ?_
      show qG p e below _ (T1.setTop (mkF m 26 #[vR a0, vI z11, vR a2, vI z12, vI p4, vI z13, vI (fn_a0 (z11).toNatClampNeg)] []))
      refine qb (fun _ k => XS.aloadN X4.here hx rfl (own_e hby d38 14 rfl) rfl rfl k) ?_
      refine qb (fun _ k => XS.iloadN X4.here hx rfl (own_e hby d38 15 rfl) rfl k) ?_
      refine qb (fun _ k => XS.iload X4.here hx rfl (own_e hby d38 16 rfl) rfl k) ?_
      refine qb (fun _ k => XS.i2b X4.here hx rfl (own_e hby d38 17 rfl) rfl k) ?_
      obtain ⟨cl25, Ar25, qq25, S25, M25, H25, G25⟩ := id F18
      have hin25 : ¬ (z12 < 0 ∨ cl25.slots.size ≤ (z12).toNatClampNeg) := inb_of S25 (ob_cmp_10 fn_a0 p4 z11 z12 z13 gg14 hb hi19 c22 c24)
      obtain ⟨T26, h26, X26, e26, W26, st26⟩ := stB X4 hx hZ e5 Ar25 (j := z12) hin25 (g := (mkF m 31 #[vR a0, vI z11, vR a2, vI z12, vI p4, vI z13, vI (fn_a0 (z11).toNatClampNeg)] [(.int ((fn_a0 (z11).toNatClampNeg).toInt8.toInt32)), (.int z12), (.ref a2)])) rfl rfl (own_e hby d38 18 rfl)
      have V26 : qA Z h26 a2 k_a2 .byte p4 (fun i => .int ((qu gg14 (z12).toNatClampNeg (nar .byte ((fn_a0 (z11).toNatClampNeg).toInt8.toInt32))) i)) := own_arfSetI Ar25 qq25 S25 M25 H25 G25 (fits_nar_byte _) W26
      have K26 : Keep h0 h26 [a2] := K7.wr W26 (Or.inl (List.mem_of_getElem? (i := 0) rfl))
      have Z26 := ql Z8 (Keep.of_wr W26).1
      have N26 := Fr.snoc X26 N6 g_a2
      refine qb st26 ?_
      refine qb (fun _ k => XS.iinc X26.here hx rfl (own_e hby d38 19 rfl) rfl (l' := #[vR a0, vI (z11 + (1 : Int32)), vR a2, vI z12, vI p4, vI z13, vI (fn_a0 (z11).toNatClampNeg)]) rfl k) ?_
      show qG p e below _ (T26.setTop (mkF m 35 #[vR a0, vI (z11 + (1 : Int32)), vR a2, vI z12, vI p4, vI z13, vI (fn_a0 (z11).toNatClampNeg)] []))
      refine qb (fun _ k => XS.iinc X26.here hx rfl (own_e hby d38 20 rfl) rfl (l' := #[vR a0, vI (z11 + (1 : Int32)), vR a2, vI (z12 + (1 : Int32)), vI p4, vI z13, vI (fn_a0 (z11).toNatClampNeg)]) rfl k) ?_
      show qG p e below _ (T26.setTop (mkF m 38 #[vR a0, vI (z11 + (1 : Int32)), vR a2, vI (z12 + (1 : Int32)), vI p4, vI z13, vI (fn_a0 (z11).toNatClampNeg)] []))
      refine qb (fun _ k => XS.iinc X26.here hx rfl (own_e hby d38 21 rfl) rfl (l' := #[vR a0, vI (z11 + (1 : Int32)), vR a2, vI (z12 + (1 : Int32)), vI p4, vI (z13 + (1 : Int32)), vI (fn_a0 (z11).toNatClampNeg)]) rfl k) ?_
      show qG p e below _ (T26.setTop (mkF m 41 #[vR a0, vI (z11 + (1 : Int32)), vR a2, vI (z12 + (1 : Int32)), vI p4, vI (z13 + (1 : Int32)), vI (fn_a0 (z11).toNatClampNeg)] []))
      refine qb (fun _ k => XS.goto X26.here hx rfl (pc0 := 41) (pc' := 3) rfl (own_e hby d38 22 rfl) (by decide) (by decide) k) ?_
      show qG p e below _ (T26.setTop (mkF m 3 #[vR a0, vI (z11 + (1 : Int32)), vR a2, vI (z12 + (1 : Int32)), vI p4, vI (z13 + (1 : Int32)), vI (fn_a0 (z11).toNatClampNeg)] []))
      have F27 := (F17.other W26 ne_a0_a2)
      exact ih _ (by rw [hfu20]; exact (ob_cmp_11 fn_a0 p4 z11 z12 z13 gg14 hb hi19 c22 c24)) _ _ _ (z11 + (1 : Int32)) (z12 + (1 : Int32)) (z13 + (1 : Int32)) (qu gg14 (z12).toNatClampNeg (nar .byte ((fn_a0 (z11).toNatClampNeg).toInt8.toInt32))) (.val (.int (fn_a0 (z11).toNatClampNeg)) : Slot) rfl X26 e26 N26 K26 Z26 F27 V26 (Or.inr ⟨_, rfl⟩) (ob_cmp_12 fn_a0 p4 z11 z12 z13 gg14 hb hi19 c22 c24)
    ·skip
     refine qb (fun _ k => XS.icmpYes X4.here hx rfl (pc0 := 7) (pc' := 44) rfl (own_e hby d38 4 rfl) rfl (flt c22).2.1 (by decide) (by decide) k) ?_
     show qG p e below _ (T1.setTop (mkF m 44 #[vR a0, vI z11, vR a2, vI z12, vI p4, vI z13, .unset] []))
     refine qb (fun _ k => XS.iload X4.here hx rfl (own_e hby d38 23 rfl) rfl k) ?_
     exact own_retI X4 hx hrt (own_e hby d38 24 rfl) hlk e5 ⟨p4, gg14, rfl, N6, K7, F18, (ob_cmp_13 fn_a0 p4 z11 z12 z13 gg14 hb hi19 c22)⟩ (by decide) (by decide)
   ·skip
    show qG p e below _ (T1.setTop (mkF m 3 #[vR a0, vI z11, vR a2, vI z12, vI p4, vI z13, vI cd21] []))
    refine qb (fun _ k => XS.iload X4.here hx rfl (own_e hby d38 2 rfl) rfl k) ?_
    refine qb (fun _ k => XS.iload X4.here hx rfl (own_e hby d38 3 rfl) rfl k) ?_
    by_cases c28 : z13 < p4
    ·skip
     refine qb (fun _ k => XS.icmpNo X4.here hx rfl (own_e hby d38 4 rfl) rfl (tlt c28).2.1 k) ?_
     show qG p e below _ (T1.setTop (mkF m 10 #[vR a0, vI z11, vR a2, vI z12, vI p4, vI z13, vI cd21] []))
     refine qb (fun _ k => XS.aloadN X4.here hx rfl (own_e hby d38 5 rfl) rfl rfl k) ?_
     refine qb (fun _ k => XS.iloadN X4.here hx rfl (own_e hby d38 6 rfl) rfl k) ?_
     obtain ⟨cl29, Ar29, qq29, S29, M29, H29, G29⟩ := id F17
     have hin29 : ¬ (z11 < 0 ∨ cl29.slots.size ≤ (z11).toNatClampNeg) := inb_of S29 (ob_cmp_14 fn_a0 p4 z11 z12 z13 gg14 hb hi19 c28)
     refine qb (fun t k => X4.caload hx (j := z11) (v := (.int (fn_a0 (z11).toNatClampNeg))) (by rw [e5]; exact Ar29.1) (State.isArrayOf_alike hZ.alike Ar29.2.1) Ar29.2.2 hin29 (H29 _ (Nat.lt_of_not_le fun y => hin29 (Or.inr y))) (g := (mkF m 12 #[vR a0, vI z11, vR a2, vI z12, vI p4, vI z13, vI cd21] [(.int z11), (.ref a0)])) rfl rfl (own_e hby d38 7 rfl) _ k) ?_
     refine qb (fun _ k => XS.istore X4.here hx rfl (own_e hby d38 8 rfl) rfl (l' := #[vR a0, vI z11, vR a2, vI z12, vI p4, vI z13, vI (fn_a0 (z11).toNatClampNeg)]) rfl k) ?_
     show qG p e below _ (T1.setTop (mkF m 15 #[vR a0, vI z11, vR a2, vI z12, vI p4, vI z13, vI (fn_a0 (z11).toNatClampNeg)] []))
     refine qb (fun _ k => XS.iload X4.here hx rfl (own_e hby d38 9 rfl) rfl k) ?_
     refine qb (fun _ k => XS.sipush X4.here hx rfl (own_e hby d38 10 rfl) k) ?_
     by_cases c30 : (255 : Int32) < (fn_a0 (z11).toNatClampNeg)
     ·skip
      refine qb (fun _ k => XS.icmpNo X4.here hx rfl (own_e hby d38 11 rfl) rfl (tlt c30).2.2.2 k) ?_
      show qG p e below _ (T1.setTop (mkF m 23 #[vR a0, vI z11, vR a2, vI z12, vI p4, vI z13, vI (fn_a0 (z11).toNatClampNeg)] []))
      refine qb (fun _ k => XS.iload X4.here hx rfl (own_e hby d38 12 rfl) rfl k) ?_
      exact own_retI X4 hx hrt (own_e hby d38 13 rfl) hlk e5 ⟨z13, gg14, rfl, N6, K7, F18, (ob_cmp_15 fn_a0 p4 z11 z12 z13 gg14 hb hi19 c28 c30)⟩ (by decide) (by decide)
     ·skip
      refine qb (fun _ k => XS.icmpYes X4.here hx rfl (pc0 := 20) (pc' := 26) rfl (own_e hby d38 11 rfl) rfl (flt c30).2.2.2 (by decide) (by decide) k) ?_
      show qG p e below _ (T1.setTop (mkF m 26 #[vR a0, vI z11, vR a2, vI z12, vI p4, vI z13, vI (fn_a0 (z11).toNatClampNeg)] []))
      refine qb (fun _ k => XS.aloadN X4.here hx rfl (own_e hby d38 14 rfl) rfl rfl k) ?_
      refine qb (fun _ k => XS.iloadN X4.here hx rfl (own_e hby d38 15 rfl) rfl k) ?_
      refine qb (fun _ k => XS.iload X4.here hx rfl (own_e hby d38 16 rfl) rfl k) ?_
      refine qb (fun _ k => XS.i2b X4.here hx rfl (own_e hby d38 17 rfl) rfl k) ?_
      obtain ⟨cl31, Ar31, qq31, S31, M31, H31, G31⟩ := id F18
      have hin31 : ¬ (z12 < 0 ∨ cl31.slots.size ≤ (z12).toNatClampNeg) := inb_of S31 (ob_cmp_16 fn_a0 p4 z11 z12 z13 gg14 hb hi19 c28 c30)
      obtain ⟨T32, h32, X32, e32, W32, st32⟩ := stB X4 hx hZ e5 Ar31 (j := z12) hin31 (g := (mkF m 31 #[vR a0, vI z11, vR a2, vI z12, vI p4, vI z13, vI (fn_a0 (z11).toNatClampNeg)] [(.int ((fn_a0 (z11).toNatClampNeg).toInt8.toInt32)), (.int z12), (.ref a2)])) rfl rfl (own_e hby d38 18 rfl)
      have V32 : qA Z h32 a2 k_a2 .byte p4 (fun i => .int ((qu gg14 (z12).toNatClampNeg (nar .byte ((fn_a0 (z11).toNatClampNeg).toInt8.toInt32))) i)) := own_arfSetI Ar31 qq31 S31 M31 H31 G31 (fits_nar_byte _) W32
      have K32 : Keep h0 h32 [a2] := K7.wr W32 (Or.inl (List.mem_of_getElem? (i := 0) rfl))
      have Z32 := ql Z8 (Keep.of_wr W32).1
      have N32 := Fr.snoc X32 N6 g_a2
      refine qb st32 ?_
      refine qb (fun _ k => XS.iinc X32.here hx rfl (own_e hby d38 19 rfl) rfl (l' := #[vR a0, vI (z11 + (1 : Int32)), vR a2, vI z12, vI p4, vI z13, vI (fn_a0 (z11).toNatClampNeg)]) rfl k) ?_
      show qG p e below _ (T32.setTop (mkF m 35 #[vR a0, vI (z11 + (1 : Int32)), vR a2, vI z12, vI p4, vI z13, vI (fn_a0 (z11).toNatClampNeg)] []))
      refine qb (fun _ k => XS.iinc X32.here hx rfl (own_e hby d38 20 rfl) rfl (l' := #[vR a0, vI (z11 + (1 : Int32)), vR a2, vI (z12 + (1 : Int32)), vI p4, vI z13, vI (fn_a0 (z11).toNatClampNeg)]) rfl k) ?_
      show qG p e below _ (T32.setTop (mkF m 38 #[vR a0, vI (z11 + (1 : Int32)), vR a2, vI (z12 + (1 : Int32)), vI p4, vI z13, vI (fn_a0 (z11).toNatClampNeg)] []))
      refine qb (fun _ k => XS.iinc X32.here hx rfl (own_e hby d38 21 rfl) rfl (l' := #[vR a0, vI (z11 + (1 : Int32)), vR a2, vI (z12 + (1 : Int32)), vI p4, vI (z13 + (1 : Int32)), vI (fn_a0 (z11).toNatClampNeg)]) rfl k) ?_
      show qG p e below _ (T32.setTop (mkF m 41 #[vR a0, vI (z11 + (1 : Int32)), vR a2, vI (z12 + (1 : Int32)), vI p4, vI (z13 + (1 : Int32)), vI (fn_a0 (z11).toNatClampNeg)] []))
      refine qb (fun _ k => XS.goto X32.here hx rfl (pc0 := 41) (pc' := 3) rfl (own_e hby d38 22 rfl) (by decide) (by decide) k) ?_
      show qG p e below _ (T32.setTop (mkF m 3 #[vR a0, vI (z11 + (1 : Int32)), vR a2, vI (z12 + (1 : Int32)), vI p4, vI (z13 + (1 : Int32)), vI (fn_a0 (z11).toNatClampNeg)] []))
      have F33 := (F17.other W32 ne_a0_a2)
      exact ih _ (by rw [hfu20]; exact (ob_cmp_17 fn_a0 p4 z11 z12 z13 gg14 hb hi19 c28 c30)) _ _ _ (z11 + (1 : Int32)) (z12 + (1 : Int32)) (z13 + (1 : Int32)) (qu gg14 (z12).toNatClampNeg (nar .byte ((fn_a0 (z11).toNatClampNeg).toInt8.toInt32))) (.val (.int (fn_a0 (z11).toNatClampNeg)) : Slot) rfl X32 e32 N32 K32 Z32 F33 V32 (Or.inr ⟨_, rfl⟩) (ob_cmp_18 fn_a0 p4 z11 z12 z13 gg14 hb hi19 c28 c30)
    ·skip
     refine qb (fun _ k => XS.icmpYes X4.here hx rfl (pc0 := 7) (pc' := 44) rfl (own_e hby d38 4 rfl) rfl (flt c28).2.1 (by decide) (by decide) k) ?_
     show qG p e below _ (T1.setTop (mkF m 44 #[vR a0, vI z11, vR a2, vI z12, vI p4, vI z13, vI cd21] []))
     refine qb (fun _ k => XS.iload X4.here hx rfl (own_e hby d38 23 rfl) rfl k) ?_
     exact own_retI X4 hx hrt (own_e hby d38 24 rfl) hlk e5 ⟨p4, gg14, rfl, N6, K7, F18, (ob_cmp_19 fn_a0 p4 z11 z12 z13 gg14 hb hi19 c28)⟩ (by decide) (by decide)
 exact LP9 _ _ _ _ (0 : Int32) (0 : Int32) (0 : Int32) fn_a2 .unset rfl X0 e0 N0 (Keep.refl h0 [a2]) Z0 P_V_a0 P_V_a2 (Or.inl rfl) (ob_cmp_20 fn_a0 fn_a2 p4 hb)
theorem pd_245 : parseMethodDescriptor "([CI[BII)I" = some ⟨[(.array .char), .int, (.array .byte), .int, .int], some .int⟩ := by decide +kernel
theorem d37 : own_ds jdk_52_method_16_code [(0, .iload_n 2, 1), (1, .newarray .byte, 2), (3, .astore_n 3, 1), (4, .aload_n 0, 1), (5, .iload_n 1, 1), (6, .aload_n 3, 1), (7, .iconst 0, 1), (8, .iload_n 2, 1), (9, .invokestatic 115, 3), (12, .istore 4, 2), (14, .iload 4, 2), (16, .iload_n 2, 1), (17, .if_icmp .eq 40, 3), (20, .aload_n 0, 1), (21, .iload_n 1, 1), (22, .iload_n 2, 1), (23, .invokestatic 119, 3), (26, .astore 5, 2), (28, .aload 5, 2), (30, .iload 4, 2), (32, .invokestatic 71, 3), (35, .sipush 255, 3), (38, .if_icmp .gt 16, 3), (54, .aload 5, 2), (56, .areturn, 1), (57, .aload_n 3, 1), (58, .areturn, 1)] = true := by decide +kernel
theorem ef_cmpBL (m : MethodId) (a0 : Addr) (p2 : Int32) : entryFrame m #[(.ref a0), (.int 0), (.int p2)] 6 = mkF m 0 #[vR a0, vI 0, vI p2, .unset, .unset, .unset] [] := rfl
theorem ob_cmpBL_21 (fn_a0 : Nat → Int32) (p2 o4 : Int32) (b5 : Nat → Int32) (hb : 0 ≤ (p2).toInt ∧ (p2).toInt ≤ 48) (hL : ∀ j, j < (p2).toNatClampNeg → ¬ ((255 : Int32) < fn_a0 j)) (hp_2 : ¬ (p2 < (0 : Int32))) (hp_3 : (p2).toNatClampNeg ≤ 48) (hp7 : own_cmp fn_a0 b5 p2 o4) : o4 = p2 := by
  exact own_cbD hL hp7
theorem ob_cmpBL_22 (fn_a0 : Nat → Int32) (p2 o4 : Int32) (b5 : Nat → Int32) (hb : 0 ≤ (p2).toInt ∧ (p2).toInt ≤ 48) (hL : ∀ j, j < (p2).toNatClampNeg → ¬ ((255 : Int32) < fn_a0 j)) (hp_2 : ¬ (p2 < (0 : Int32))) (hp_3 : (p2).toNatClampNeg ≤ 48) (hp7 : own_cmp fn_a0 b5 p2 o4) : own_cL fn_a0 b5 (p2).toNatClampNeg := by
  exact own_cbL hL hp7
def QcmpBL (Z : State) (k_a0 : ClassId) (fn_a0 : Nat → Int32) (a0 : Addr) (p2 : Int32) (h0 : Heap) (n0 : Nat) (v : Option Value) (h : Heap) (L : List Loc) : Prop := ∃ (rr : Addr) (kk5001 : ClassId) (gg5002 : Nat → Int32), v = some (.ref rr) ∧ Fr n0 L ∧ Keep h0 h [] ∧ (n0 ≤ rr) ∧ (h0.size ≤ rr) ∧ Exa Z h rr "[B" ∧ qA Z h rr kk5001 .byte p2 (fun i => .int (gg5002 i)) ∧ (own_cL fn_a0 gg5002 (p2).toNatClampNeg)
theorem rmcmpBL (l : Launch) (Z : State) (A0 : Array Value) (hw : ∀ d ∈ tables_1, d.before A0 Z = true) (ws : List Jvm.Cond) (k_a0 : ClassId) (fn_a0 : Nat → Int32) (a0 : Addr) (p2 : Int32) (h0 : Heap) (n0 : Nat) (Z0 : n0 ≤ h0.size) (P_V_a0 : qA Z h0 a0 k_a0 .char p2 (fun i => .int (fn_a0 i))) (hb : 0 ≤ (p2).toInt ∧ (p2).toInt ≤ 48) (hL : ∀ j, j < (p2).toNatClampNeg → ¬ ((255 : Int32) < fn_a0 j)) (hp_2 : ¬ (p2 < (0 : Int32))) (hp_3 : (p2).toNatClampNeg ≤ 48) :
  qM l Z (⟨"java/lang/StringUTF16", "compress", "([CII)[B"⟩ : MethodName) jdk_52_method_16_code 6 (some (.array .byte)) ws ({ frames := 1, cells := 1, slots := 48, locals := 18 } : Room) #[(.ref a0), (.int 0), (.int p2)] h0 (QcmpBL Z k_a0 fn_a0 a0 p2 h0 n0) 1 48 := own_enter (plainFor_of_name pn_putc) (fun m => ef_cmpBL m a0 p2) fun p e s m below meth c s₁ hx hby hml hlk hown hnm X0 e0 hZ hrt => by
 have hwd := qw hw
 have N0 := Fr.nil n0
 show qG p e below _ (s₁.setTop (mkF m 0 #[vR a0, vI 0, vI p2, .unset, .unset, .unset] []))
 refine qb (fun _ k => XS.iloadN X0.here hx rfl (own_e hby d37 0 rfl) rfl k) ?_
 obtain ⟨T1, h1, k1, X1, e1, E1, A1, Ax1, st1⟩ := newPE X0 hx hZ (hwd 3 rfl) e0 (g := (mkF m 1 #[vR a0, vI 0, vI p2, .unset, .unset, .unset] [(.int p2)])) rfl (own_e hby d37 1 rfl) rfl hp_2 (cap := 48) hp_3 (by decide) (by decide) (by decide) (ad := "[B") (by decide)
 obtain ⟨b1, g1⟩ : ∃ z, z = h0.size := ⟨_, rfl⟩
 have ge_b1 : n0 ≤ b1 := ql Z0 (Nat.le_of_eq g1.symm)
 have sz_b1 := ql (Keep.refl h0 []).1 (Nat.le_of_eq g1.symm)
 have K1 : Keep h0 h1 [] := (Keep.refl h0 []).ext E1
 have Z1 := ql Z0 E1.1
 rw [← g1] at A1 Ax1 st1
 have V1 : qA Z h1 b1 k1 .byte p2 (fun i => .int ((fun _ => (0 : Int32)) i)) := own_arfNew A1 hp_2
 refine qb st1 ?_
 show qG p e below _ (T1.setTop (mkF m 3 #[vR a0, vI 0, vI p2, .unset, .unset, .unset] [(.ref b1)]))
 refine qb (fun _ k => XS.astoreN X1.here hx rfl (own_e hby d37 2 rfl) rfl rfl (l' := #[vR a0, vI 0, vI p2, vR b1, .unset, .unset]) rfl k) ?_
 show qG p e below _ (T1.setTop (mkF m 4 #[vR a0, vI 0, vI p2, vR b1, .unset, .unset] []))
 refine qb (fun _ k => XS.aloadN X1.here hx rfl (own_e hby d37 3 rfl) rfl rfl k) ?_
 refine qb (fun _ k => XS.iloadN X1.here hx rfl (own_e hby d37 4 rfl) rfl k) ?_
 refine qb (fun _ k => XS.aloadN X1.here hx rfl (own_e hby d37 5 rfl) rfl rfl k) ?_
 refine qb (fun _ k => XS.iconst X1.here hx rfl (own_e hby d37 6 rfl) k) ?_
 refine qb (fun _ k => XS.iloadN X1.here hx rfl (own_e hby d37 7 rfl) rfl k) ?_
 have F2 := (P_V_a0.ext E1)
 obtain ⟨_, T3, Lc3, X3, hQ3, st3⟩ := own_cS X1 hx hZ hown hml (rmcmp l Z A0 hw [] k_a0 fn_a0 k1 (fun _ => (0 : Int32)) a0 b1 p2 h1 n0 Z1 F2 V1 hb (qn P_V_a0.lt (Nat.le_of_eq g1.symm)) ge_b1) (hwd 245 rfl) (hwd 246 rfl) (hwd 243 rfl) (hwd 247 rfl) (by decide) pd_245 e1 (g := (mkF m 9 #[vR a0, vI 0, vI p2, vR b1, .unset, .unset] [(.int p2), (.int 0), (.ref b1), (.int 0), (.ref a0)])) (rest := []) rfl rfl rfl rfl (own_e hby d37 8 rfl) rfl
 obtain ⟨o4, b5, rfl, Nq3, Kq3, F6, hp7⟩ := hQ3
 have N3 := Fr.app N0 Nq3
 have K3 : Keep h0 T3.heap [] := K1.trans Kq3 ((allS (Or.inr sz_b1) all0))
 have Z3 := ql Z1 Kq3.1
 refine qb st3 ?_
 show qG p e below _ (T3.setTop (mkF m 12 #[vR a0, vI 0, vI p2, vR b1, .unset, .unset] [(.int o4)]))
 refine qb (fun _ k => XS.istore X3.here hx rfl (own_e hby d37 9 rfl) rfl (l' := #[vR a0, vI 0, vI p2, vR b1, vI o4, .unset]) rfl k) ?_
 show qG p e below _ (T3.setTop (mkF m 14 #[vR a0, vI 0, vI p2, vR b1, vI o4, .unset] []))
 refine qb (fun _ k => XS.iload X3.here hx rfl (own_e hby d37 10 rfl) rfl k) ?_
 refine qb (fun _ k => XS.iloadN X3.here hx rfl (own_e hby d37 11 rfl) rfl k) ?_
 have hd8 : o4 = p2 := (ob_cmpBL_21 fn_a0 p2 o4 b5 hb hL hp_2 hp_3 hp7)
 refine qb (fun _ k => XS.icmpYes X3.here hx rfl (pc0 := 17) (pc' := 57) rfl (own_e hby d37 12 rfl) rfl (teq hd8).1 (by decide) (by decide) k) ?_
 show qG p e below _ (T3.setTop (mkF m 57 #[vR a0, vI 0, vI p2, vR b1, vI o4, .unset] []))
 refine qb (fun _ k => XS.aloadN X3.here hx rfl (own_e hby d37 25 rfl) rfl rfl k) ?_
 have F9 := (Ax1.keep Kq3)
 exact own_retR X3 hx hrt (by decide) rfl (own_e hby d37 26 rfl) hlk rfl ⟨b1, k1, b5, rfl, N3, K3, ge_b1, sz_b1, F9, F6, (ob_cmpBL_22 fn_a0 p2 o4 b5 hb hL hp_2 hp_3 hp7)⟩ (by decide) (by decide)
theorem d39 : own_ds jdk_52_method_15_code [(0, .iload_n 1, 1), (1, .aload_n 0, 1), (2, .arraylength, 1), (3, .isub, 1), (4, .bipush 31, 2), (6, .iushr, 1), (7, .i2b, 1), (8, .ireturn, 1)] = true := by decide +kernel
theorem ef_cfaL (m : MethodId) (a0 : Addr) (p1 : Int32) : entryFrame m #[(.ref a0), (.int p1)] 2 = mkF m 0 #[vR a0, vI p1] [] := rfl
def QcfaL (Z : State) (k_a0 : ClassId) (n_a0 : Int32) (fn_a0 : Nat → Int32) (a0 : Addr) (p1 : Int32) (h0 : Heap) (n0 : Nat) (v : Option Value) (h : Heap) (L : List Loc) : Prop := v = some (.int (nar .byte ((((p1 - n_a0).toUInt32 >>> ((31 : Int32) &&& 31).toUInt32).toInt32).toInt8.toInt32))) ∧ Fr n0 L ∧ h = h0
theorem rmcfaL (l : Launch) (Z : State) (A0 : Array Value) (hw : ∀ d ∈ tables_1, d.before A0 Z = true) (ws : List Jvm.Cond) (k_a0 : ClassId) (n_a0 : Int32) (fn_a0 : Nat → Int32) (a0 : Addr) (p1 : Int32) (h0 : Heap) (n0 : Nat) (Z0 : n0 ≤ h0.size) (P_V_a0 : qA Z h0 a0 k_a0 .byte n_a0 (fun i => .int (fn_a0 i))) :
  qM l Z (⟨"java/lang/StringUTF16", "coderFromArrayLen", "([BI)B"⟩ : MethodName) jdk_52_method_15_code 2 (some .byte) ws ({ frames := 0, cells := 0, slots := 0, locals := 0 } : Room) #[(.ref a0), (.int p1)] h0 (QcfaL Z k_a0 n_a0 fn_a0 a0 p1 h0 n0) 0 0 := own_enter (plainFor_of_name pn_putc) (fun m => ef_cfaL m a0 p1) fun p e s m below meth c s₁ hx hby hml hlk hown hnm X0 e0 hZ hrt => by
 have hwd := qw hw
 have N0 := Fr.nil n0
 show qG p e below _ (s₁.setTop (mkF m 0 #[vR a0, vI p1] []))
 refine qb (fun _ k => XS.iloadN X0.here hx rfl (own_e hby d39 0 rfl) rfl k) ?_
 refine qb (fun _ k => XS.aloadN X0.here hx rfl (own_e hby d39 1 rfl) rfl rfl k) ?_
 obtain ⟨cl1, Ar1, qq1, S1, M1, H1, G1⟩ := id P_V_a0
 refine qb (fun t k => X0.arraylength hx (by rw [e0]; exact Ar1.1) (State.isArrayOf_alike hZ.alike Ar1.2.1) (g := (mkF m 2 #[vR a0, vI p1] [(.ref a0), (.int p1)])) rfl rfl (own_e hby d39 2 rfl) _ k) ?_
 rw [len_of S1 M1]
 show qG p e below _ (s₁.setTop (mkF m 3 #[vR a0, vI p1] [(.int n_a0), (.int p1)]))
 refine qb (fun _ k => XS.isub X0.here hx rfl (own_e hby d39 3 rfl) rfl k) ?_
 refine qb (fun _ k => XS.bipush X0.here hx rfl (own_e hby d39 4 rfl) k) ?_
 refine qb (fun _ k => XS.iushr X0.here hx rfl (own_e hby d39 5 rfl) rfl k) ?_
 refine qb (fun _ k => XS.i2b X0.here hx rfl (own_e hby d39 6 rfl) rfl k) ?_
 exact own_retN X0 hx (t := .byte) hrt (by simp) (own_e hby d39 7 rfl) hlk e0 ⟨rfl, N0, rfl⟩ (by decide) (by decide)
theorem pd_241 : parseMethodDescriptor "([CII)[B" = some ⟨[(.array .char), .int, .int], some (.array .byte)⟩ := by decide +kernel
theorem pd_248 : parseMethodDescriptor "([BI)B" = some ⟨[(.array .byte), .int], some .byte⟩ := by decide +kernel
theorem d36 : own_ds jdk_42_method_149_code [(0, .aload_n 0, 1), (1, .invokespecial 1, 3), (4, .iload_n 3, 1), (5, .ifCond .ne 22, 3), (27, .getstatic 38, 3), (30, .ifCond .eq 28, 3), (33, .aload_n 1, 1), (34, .iload_n 2, 1), (35, .iload_n 3, 1), (36, .invokestatic 177, 3), (39, .astore 5, 2), (41, .aload_n 0, 1), (42, .aload 5, 2), (44, .iload_n 3, 1), (45, .invokestatic 47, 3), (48, .putfield 15, 3), (51, .aload_n 0, 1), (52, .aload 5, 2), (54, .putfield 9, 3), (57, .return_, 1)] = true := by decide +kernel
theorem pn_si4L : plainName "java/lang/String" = true := by first | (simp [plainName, overriddenIn]; done) | decide +kernel
theorem ef_si4L (m : MethodId) (a0 a1 : Addr) (p3 : Int32) : entryFrame m #[(.ref a0), (.ref a1), (.int 0), (.int p3), .null] 6 = mkF m 0 #[vR a0, vR a1, vI 0, vI p3, .val .null, .unset] [] := rfl
def Qsi4L (Z : State) (k_a1 : ClassId) (fn_a1 : Nat → Int32) (f_CS : Int32) (a0 a1 : Addr) (p3 f_a0_coder : Int32) (f_a0_value : Value) (h0 : Heap) (n0 : Nat) (v : Option Value) (h : Heap) (L : List Loc) : Prop := ∃ (r5001 : Addr) (kk5002 : ClassId) (gg5003 : Nat → Int32), v = none ∧ Fr n0 L ∧ Keep h0 h [a0] ∧ (n0 ≤ r5001) ∧ (h0.size ≤ r5001) ∧ Exa Z h a0 "java/lang/String" ∧ Fld Z h a0 cS "coder" "B" (.int (nar .byte (nar .byte ((((p3 - p3).toUInt32 >>> ((31 : Int32) &&& 31).toUInt32).toInt32).toInt8.toInt32)))) ∧ Fld Z h a0 cS "value" "[B" (.ref r5001) ∧ Exa Z h r5001 "[B" ∧ qA Z h r5001 kk5002 .byte p3 (fun i => .int (gg5003 i)) ∧ ((∃ (b6_si4L : Nat → Int32), (own_cL fn_a1 b6_si4L (p3).toNatClampNeg) ∧ gg5003 = b6_si4L))
theorem rmsi4L (l : Launch) (Z : State) (A0 : Array Value) (hw : ∀ d ∈ tables_1, d.before A0 Z = true) (ws : List Jvm.Cond) (k_a1 : ClassId) (fn_a1 : Nat → Int32) (f_CS : Int32) (a0 a1 : Addr) (p3 f_a0_coder : Int32) (f_a0_value : Value) (h0 : Heap) (n0 : Nat) (Z0 : n0 ≤ h0.size) (P_E_a0 : Exa Z h0 a0 "java/lang/String") (P_V_a1 : qA Z h0 a1 k_a1 .char p3 (fun i => .int (fn_a1 i))) (P_S_CS : Sta Z h0 cS "COMPACT_STRINGS" "Z" (.int f_CS)) (hn_CS : ¬ (f_CS = (0 : Int32))) (hb : 0 ≤ (p3).toInt ∧ (p3).toInt ≤ 48) (hL : ∀ j, j < (p3).toNatClampNeg → ¬ ((255 : Int32) < fn_a1 j)) (ha5 : ¬ (p3 = (0 : Int32))) (hp_4 : ¬ (p3 < (0 : Int32))) (hp_5 : (p3).toNatClampNeg ≤ 48) (P_F_a0_coder : Fld Z h0 a0 cS "coder" "B" (.int f_a0_coder)) (g_a0 : n0 ≤ a0) (P_F_a0_value : Fld Z h0 a0 cS "value" "[B" f_a0_value) :
  qM l Z (⟨"java/lang/String", "<init>", "([CIILjava/lang/Void;)V"⟩ : MethodName) jdk_42_method_149_code 6 none ws ({ frames := 2, cells := 1, slots := 48, locals := 35 } : Room) #[(.ref a0), (.ref a1), (.int 0), (.int p3), .null] h0 (Qsi4L Z k_a1 fn_a1 f_CS a0 a1 p3 f_a0_coder f_a0_value h0 n0) 1 48 := own_enter (plainFor_of_name pn_si4L) (fun m => ef_si4L m a0 a1 p3) fun p e s m below meth c s₁ hx hby hml hlk hown hnm X0 e0 hZ hrt => by
 have hwd := qw hw
 have N0 := Fr.nil n0
 show qG p e below _ (s₁.setTop (mkF m 0 #[vR a0, vR a1, vI 0, vI p3, .val .null, .unset] []))
 refine qb (fun _ k => XS.aloadN X0.here hx rfl (own_e hby d36 0 rfl) rfl rfl k) ?_
 obtain ⟨T1, X1, e1, st1⟩ := initO X0 hx hZ hown (hwd 123 rfl) (hwd 29 rfl) (hwd 30 rfl) e0 (g := (mkF m 1 #[vR a0, vR a1, vI 0, vI p3, .val .null, .unset] [(.ref a0)])) rfl (by rw [hml]; rfl) rfl (own_e hby d36 1 rfl) (by decide) (W := 0) (by show 2 * 0 + _ ≤ _; exact Nat.le_of_eq rfl) (by decide)
 refine qb st1 ?_
 show qG p e below _ (T1.setTop (mkF m 4 #[vR a0, vR a1, vI 0, vI p3, .val .null, .unset] []))
 refine qb (fun _ k => XS.iloadN X1.here hx rfl (own_e hby d36 2 rfl) rfl k) ?_
 refine qb (fun _ k => XS.ifYes X1.here hx rfl (pc0 := 5) (pc' := 27) rfl (own_e hby d36 3 rfl) rfl ((if0 _ _).trans (feq ha5).2) (by decide) (by decide) k) ?_
 show qG p e below _ (T1.setTop (mkF m 27 #[vR a0, vR a1, vI 0, vI p3, .val .null, .unset] []))
 obtain ⟨T2, X2, e2, st2⟩ := getS2 X1 hx hZ hown (host := "") (Or.inl (hwd 57 rfl)) Via.refl e1 P_S_CS (g := (mkF m 27 #[vR a0, vR a1, vI 0, vI p3, .val .null, .unset] [])) rfl (own_e hby d36 4 rfl)
 refine qb st2 ?_
 refine qb (fun _ k => XS.ifNo X2.here hx rfl (own_e hby d36 5 rfl) rfl ((if0 _ _).trans (feq hn_CS).1) k) ?_
 show qG p e below _ (T2.setTop (mkF m 33 #[vR a0, vR a1, vI 0, vI p3, .val .null, .unset] []))
 refine qb (fun _ k => XS.aloadN X2.here hx rfl (own_e hby d36 6 rfl) rfl rfl k) ?_
 refine qb (fun _ k => XS.iloadN X2.here hx rfl (own_e hby d36 7 rfl) rfl k) ?_
 refine qb (fun _ k => XS.iloadN X2.here hx rfl (own_e hby d36 8 rfl) rfl k) ?_
 obtain ⟨_, T3, Lc3, X3, hQ3, st3⟩ := own_cS X2 hx hZ hown hml (rmcmpBL l Z A0 hw [] k_a1 fn_a1 a1 p3 h0 n0 Z0 P_V_a1 hb hL hp_4 hp_5) (hwd 241 rfl) (hwd 242 rfl) (hwd 243 rfl) (hwd 244 rfl) (by decide) pd_241 e2 (g := (mkF m 36 #[vR a0, vR a1, vI 0, vI p3, .val .null, .unset] [(.int p3), (.int 0), (.ref a1)])) (rest := []) rfl rfl rfl rfl (own_e hby d36 9 rfl) rfl
 obtain ⟨b4, b5, b6, rfl, Nq3, Kq3, hp7, hp8, F9, F10, hp11⟩ := hQ3
 have N3 := Fr.app N0 Nq3
 have K3 : Keep h0 T3.heap [a0] := (Keep.refl h0 [a0]).trans Kq3 (all0)
 have Z3 := ql Z0 Kq3.1
 have sz_b4 := ql (Keep.refl h0 [a0]).1 hp8
 refine qb st3 ?_
 show qG p e below _ (T3.setTop (mkF m 39 #[vR a0, vR a1, vI 0, vI p3, .val .null, .unset] [(.ref b4)]))
 refine qb (fun _ k => XS.astore X3.here hx rfl (own_e hby d36 10 rfl) rfl rfl (l' := #[vR a0, vR a1, vI 0, vI p3, .val .null, vR b4]) rfl k) ?_
 show qG p e below _ (T3.setTop (mkF m 41 #[vR a0, vR a1, vI 0, vI p3, .val .null, vR b4] []))
 refine qb (fun _ k => XS.aloadN X3.here hx rfl (own_e hby d36 11 rfl) rfl rfl k) ?_
 refine qb (fun _ k => XS.aload X3.here hx rfl (own_e hby d36 12 rfl) rfl rfl k) ?_
 refine qb (fun _ k => XS.iloadN X3.here hx rfl (own_e hby d36 13 rfl) rfl k) ?_
 obtain ⟨_, T12, Lc12, X12, hQ12, st12⟩ := own_cS X3 hx hZ hown hml (rmcfaL l Z A0 hw [] b5 p3 b6 b4 p3 T3.heap n0 Z3 F10) (hwd 248 rfl) (hwd 249 rfl) (hwd 243 rfl) (hwd 250 rfl) (by decide) pd_248 rfl (g := (mkF m 45 #[vR a0, vR a1, vI 0, vI p3, .val .null, vR b4] [(.int p3), (.ref b4), (.ref a0)])) (rest := [(.ref a0)]) rfl rfl rfl rfl (own_e hby d36 14 rfl) rfl
 obtain ⟨rfl, Nq12, eq12⟩ := hQ12
 have N12 := Fr.app N3 Nq12
 refine qb st12 ?_
 show qG p e below _ (T12.setTop (mkF m 48 #[vR a0, vR a1, vI 0, vI p3, .val .null, vR b4] [(.int (nar .byte ((((p3 - p3).toUInt32 >>> ((31 : Int32) &&& 31).toUInt32).toInt32).toInt8.toInt32))), (.ref a0)]))
 have F13 := (P_E_a0.keep Kq3)
 have F14 := (P_F_a0_coder.keep Kq3 nin0)
 obtain ⟨T15, h15, X15, e15, W15, st15⟩ := putFN X12 hx hZ hown (hwd 58 rfl) Via.refl eq12 F14 F13 (Or.inr ⟨(hwd 5 rfl), rfl, hnm⟩) (hwd 2 rfl) (ty := .byte) (v' := (.int (nar .byte (nar .byte ((((p3 - p3).toUInt32 >>> ((31 : Int32) &&& 31).toUInt32).toInt32).toInt8.toInt32))))) (by decide) rfl (fits_nar_byte _) (g := (mkF m 48 #[vR a0, vR a1, vI 0, vI p3, .val .null, vR b4] [(.int (nar .byte ((((p3 - p3).toUInt32 >>> ((31 : Int32) &&& 31).toUInt32).toInt32).toInt8.toInt32))), (.ref a0)])) rfl rfl (own_e hby d36 15 rfl)
 have Fw15 : Fld Z h15 a0 cS "coder" "B" (.int (nar .byte (nar .byte ((((p3 - p3).toUInt32 >>> ((31 : Int32) &&& 31).toUInt32).toInt32).toInt8.toInt32)))) := F14.same W15
 have K15 : Keep h0 h15 [a0] := K3.wr W15 (Or.inl (List.mem_of_getElem? (i := 0) rfl))
 have Z15 := ql Z3 (Keep.of_wr W15).1
 have N15 := Fr.snoc X15 N12 g_a0
 refine qb st15 ?_
 show qG p e below _ (T15.setTop (mkF m 51 #[vR a0, vR a1, vI 0, vI p3, .val .null, vR b4] []))
 refine qb (fun _ k => XS.aloadN X15.here hx rfl (own_e hby d36 16 rfl) rfl rfl k) ?_
 refine qb (fun _ k => XS.aload X15.here hx rfl (own_e hby d36 17 rfl) rfl rfl k) ?_
 have F16 := (F13.wr W15)
 have F17 := ((P_F_a0_value.keep Kq3 nin0).other W15 (Or.inr (slot_ne (Or.inr (hwd 4 rfl)) (Or.inr (hwd 5 rfl)) (by decide) (t := (.array .byte)) (t' := .byte) (by decide) (by decide))))
 obtain ⟨T18, h18, X18, e18, W18, st18⟩ := putF X15 hx hZ hown (host := "") (Or.inl (hwd 51 rfl)) Via.refl e15 F17 F16 (Or.inr ⟨(hwd 4 rfl), rfl, hnm⟩) (hwd 2 rfl) (ty := (.array .byte)) (by decide) rfl rfl (g := (mkF m 54 #[vR a0, vR a1, vI 0, vI p3, .val .null, vR b4] [(.ref b4), (.ref a0)])) rfl rfl (own_e hby d36 18 rfl)
 have Fw18 : Fld Z h18 a0 cS "value" "[B" (.ref b4) := F17.same W18
 have K18 : Keep h0 h18 [a0] := K15.wr W18 (Or.inl (List.mem_of_getElem? (i := 0) rfl))
 have Z18 := ql Z15 (Keep.of_wr W18).1
 have N18 := Fr.snoc X18 N15 g_a0
 refine qb st18 ?_
 show qG p e below _ (T18.setTop (mkF m 57 #[vR a0, vR a1, vI 0, vI p3, .val .null, vR b4] []))
 have F19 := (F16.wr W18)
 have F20 := (Fw15.other W18 (Or.inr (slot_ne (Or.inr (hwd 5 rfl)) (Or.inr (hwd 4 rfl)) (by decide) (t := .byte) (t' := (.array .byte)) (by decide) (by decide))))
 have F21 := ((F9.wr W15).wr W18)
 have F22 := ((F10.other W15 (qm P_E_a0.lt hp8)).other W18 (qm P_E_a0.lt hp8))
 exact own_ret0 X18 hx hrt (own_e hby d36 19 rfl) hlk e18 ⟨b4, b5, b6, rfl, N18, K18, hp7, sz_b4, F19, F20, Fw18, F21, F22, ⟨b6, hp11, rfl⟩⟩ (by decide) (by decide)
theorem pd_238 : parseMethodDescriptor "([CIILjava/lang/Void;)V" = some ⟨[(.array .char), .int, .int, (.object "java/lang/Void")], none⟩ := by decide +kernel
theorem d35 : own_ds jdk_42_method_3_code [(0, .aload_n 0, 1), (1, .aload_n 1, 1), (2, .iconst 0, 1), (3, .aload_n 1, 1), (4, .arraylength, 1), (5, .aconst_null, 1), (6, .invokespecial 27, 3), (9, .return_, 1)] = true := by decide +kernel
theorem ef_siL (m : MethodId) (a0 a1 : Addr) : entryFrame m #[(.ref a0), (.ref a1)] 2 = mkF m 0 #[vR a0, vR a1] [] := rfl
def QsiL (Z : State) (k_a1 : ClassId) (n_a1 : Int32) (fn_a1 : Nat → Int32) (f_CS : Int32) (a0 a1 : Addr) (f_a0_coder : Int32) (f_a0_value : Value) (h0 : Heap) (n0 : Nat) (v : Option Value) (h : Heap) (L : List Loc) : Prop := ∃ (r5001 : Addr) (kk5002 : ClassId) (gg5003 : Nat → Int32), v = none ∧ Fr n0 L ∧ Keep h0 h [a0] ∧ (n0 ≤ r5001) ∧ (h0.size ≤ r5001) ∧ Exa Z h a0 "java/lang/String" ∧ Fld Z h a0 cS "coder" "B" (.int (nar .byte (nar .byte ((((n_a1 - n_a1).toUInt32 >>> ((31 : Int32) &&& 31).toUInt32).toInt32).toInt8.toInt32)))) ∧ Fld Z h a0 cS "value" "[B" (.ref r5001) ∧ Exa Z h r5001 "[B" ∧ qA Z h r5001 kk5002 .byte n_a1 (fun i => .int (gg5003 i)) ∧ ((∃ (b5_siL : Nat → Int32), ((∃ (b6_si4L : Nat → Int32), (own_cL fn_a1 b6_si4L (n_a1).toNatClampNeg) ∧ b5_siL = b6_si4L)) ∧ gg5003 = b5_siL))
theorem rmsiL (l : Launch) (Z : State) (A0 : Array Value) (hw : ∀ d ∈ tables_1, d.before A0 Z = true) (ws : List Jvm.Cond) (k_a1 : ClassId) (n_a1 : Int32) (fn_a1 : Nat → Int32) (f_CS : Int32) (a0 a1 : Addr) (f_a0_coder : Int32) (f_a0_value : Value) (h0 : Heap) (n0 : Nat) (Z0 : n0 ≤ h0.size) (P_E_a0 : Exa Z h0 a0 "java/lang/String") (P_V_a1 : qA Z h0 a1 k_a1 .char n_a1 (fun i => .int (fn_a1 i))) (P_S_CS : Sta Z h0 cS "COMPACT_STRINGS" "Z" (.int f_CS)) (hn_CS : ¬ (f_CS = (0 : Int32))) (hb : 0 ≤ (n_a1).toInt ∧ (n_a1).toInt ≤ 48) (hL : ∀ j, j < (n_a1).toNatClampNeg → ¬ ((255 : Int32) < fn_a1 j)) (P_F_a0_coder : Fld Z h0 a0 cS "coder" "B" (.int f_a0_coder)) (P_F_a0_value : Fld Z h0 a0 cS "value" "[B" f_a0_value) (hp_3 : ¬ (n_a1 = (0 : Int32))) (hp_4 : ¬ (n_a1 < (0 : Int32))) (hp_5 : (n_a1).toNatClampNeg ≤ 48) (g_a0 : n0 ≤ a0) :
  qM l Z (⟨"java/lang/String", "<init>", "([C)V"⟩ : MethodName) jdk_42_method_3_code 2 none ws ({ frames := 3, cells := 1, slots := 48, locals := 52 } : Room) #[(.ref a0), (.ref a1)] h0 (QsiL Z k_a1 n_a1 fn_a1 f_CS a0 a1 f_a0_coder f_a0_value h0 n0) 1 48 := own_enter (plainFor_of_name pn_si4L) (fun m => ef_siL m a0 a1) fun p e s m below meth c s₁ hx hby hml hlk hown hnm X0 e0 hZ hrt => by
 have hwd := qw hw
 have N0 := Fr.nil n0
 show qG p e below _ (s₁.setTop (mkF m 0 #[vR a0, vR a1] []))
 refine qb (fun _ k => XS.aloadN X0.here hx rfl (own_e hby d35 0 rfl) rfl rfl k) ?_
 refine qb (fun _ k => XS.aloadN X0.here hx rfl (own_e hby d35 1 rfl) rfl rfl k) ?_
 refine qb (fun _ k => XS.iconst X0.here hx rfl (own_e hby d35 2 rfl) k) ?_
 refine qb (fun _ k => XS.aloadN X0.here hx rfl (own_e hby d35 3 rfl) rfl rfl k) ?_
 obtain ⟨cl1, Ar1, qq1, S1, M1, H1, G1⟩ := id P_V_a1
 refine qb (fun t k => X0.arraylength hx (by rw [e0]; exact Ar1.1) (State.isArrayOf_alike hZ.alike Ar1.2.1) (g := (mkF m 4 #[vR a0, vR a1] [(.ref a1), (.int 0), (.ref a1), (.ref a0)])) rfl rfl (own_e hby d35 4 rfl) _ k) ?_
 rw [len_of S1 M1]
 show qG p e below _ (s₁.setTop (mkF m 5 #[vR a0, vR a1] [(.int n_a1), (.int 0), (.ref a1), (.ref a0)]))
 refine qb (fun _ k => XS.aconstNull X0.here hx rfl (own_e hby d35 5 rfl) k) ?_
 obtain ⟨_, T2, Lc2, X2, hQ2, st2⟩ := own_cI X0 hx hZ hown hml (rmsi4L l Z A0 hw [] k_a1 fn_a1 f_CS a0 a1 n_a1 f_a0_coder f_a0_value h0 n0 Z0 P_E_a0 P_V_a1 P_S_CS hn_CS hb hL hp_3 hp_4 hp_5 P_F_a0_coder g_a0 P_F_a0_value) (hwd 238 rfl) (hwd 239 rfl) (hwd 1 rfl) (hwd 240 rfl) (by decide) pd_238 e0 rfl (g := (mkF m 6 #[vR a0, vR a1] [.null, (.int n_a1), (.int 0), (.ref a1), (.ref a0)])) (rest := []) rfl rfl rfl rfl (own_e hby d35 6 rfl) rfl
 obtain ⟨b3, b4, b5, rfl, Nq2, Kq2, hp6, hp7, F8, F9, F10, F11, F12, hp13⟩ := hQ2
 have N2 := Fr.app N0 Nq2
 have K2 : Keep h0 T2.heap [a0] := (Keep.refl h0 [a0]).trans Kq2 ((allS (Or.inl (List.mem_of_getElem? (i := 0) rfl)) all0))
 have Z2 := ql Z0 Kq2.1
 have sz_b3 := ql (Keep.refl h0 [a0]).1 hp7
 refine qb st2 ?_
 show qG p e below _ (T2.setTop (mkF m 9 #[vR a0, vR a1] []))
 exact own_ret0 X2 hx hrt (own_e hby d35 7 rfl) hlk rfl ⟨b3, b4, b5, rfl, N2, K2, hp6, sz_b3, F8, F9, F10, F11, F12, ⟨b5, hp13, rfl⟩⟩ (by decide) (by decide)
theorem pd_267 : parseMethodDescriptor "([BI)C" = some ⟨[(.array .byte), .int], some .char⟩ := by decide +kernel
theorem ef_cmpBU (m : MethodId) (a0 : Addr) (p2 : Int32) : entryFrame m #[(.ref a0), (.int 0), (.int p2)] 6 = mkF m 0 #[vR a0, vI 0, vI p2, .unset, .unset, .unset] [] := rfl
theorem ob_cmpBU_23 (fn_a0 : Nat → Int32) (p2 o4 : Int32) (b5 : Nat → Int32) (hb : 0 ≤ (p2).toInt ∧ (p2).toInt ≤ 48) (hU : ∃ j, j < (p2).toNatClampNeg ∧ (255 : Int32) < fn_a0 j) (hR : ∀ j, j < (p2).toNatClampNeg → 0 ≤ (fn_a0 j).toInt ∧ (fn_a0 j).toInt < 65536) (hp_3 : ¬ (p2 < (0 : Int32))) (hp_4 : (p2).toNatClampNeg ≤ 48) (hp_5 : p2 < (1073741823 : Int32)) (hp_6 : ¬ ((p2 <<< ((1 : Int32) &&& 31)) < (0 : Int32))) (hp_7 : ((p2 <<< ((1 : Int32) &&& 31))).toNatClampNeg ≤ 96) (hp7 : own_cmp fn_a0 b5 p2 o4) : ¬ (o4 = p2) := by
  exact own_cbN hU hp7
theorem ob_cmpBU_24 (fn_a0 : Nat → Int32) (p2 o4 : Int32) (b5 b16 : Nat → Int32) (hb : 0 ≤ (p2).toInt ∧ (p2).toInt ≤ 48) (hU : ∃ j, j < (p2).toNatClampNeg ∧ (255 : Int32) < fn_a0 j) (hR : ∀ j, j < (p2).toNatClampNeg → 0 ≤ (fn_a0 j).toInt ∧ (fn_a0 j).toInt < 65536) (hp_3 : ¬ (p2 < (0 : Int32))) (hp_4 : (p2).toNatClampNeg ≤ 48) (hp_5 : p2 < (1073741823 : Int32)) (hp_6 : ¬ ((p2 <<< ((1 : Int32) &&& 31)) < (0 : Int32))) (hp_7 : ((p2 <<< ((1 : Int32) &&& 31))).toNatClampNeg ≤ 96) (hp7 : own_cmp fn_a0 b5 p2 o4) (hp21 : own_u16 fn_a0 b16 (p2).toNatClampNeg) : (¬ (o4 <<< ((1 : Int32) &&& 31)) < 0) ∧ (o4 <<< ((1 : Int32) &&& 31)) < (p2 <<< ((1 : Int32) &&& 31)) := by
  exact (own_cbP hU hb hp7).1
theorem ob_cmpBU_25 (fn_a0 : Nat → Int32) (p2 o4 : Int32) (b5 b16 : Nat → Int32) (hb : 0 ≤ (p2).toInt ∧ (p2).toInt ≤ 48) (hU : ∃ j, j < (p2).toNatClampNeg ∧ (255 : Int32) < fn_a0 j) (hR : ∀ j, j < (p2).toNatClampNeg → 0 ≤ (fn_a0 j).toInt ∧ (fn_a0 j).toInt < 65536) (hp_3 : ¬ (p2 < (0 : Int32))) (hp_4 : (p2).toNatClampNeg ≤ 48) (hp_5 : p2 < (1073741823 : Int32)) (hp_6 : ¬ ((p2 <<< ((1 : Int32) &&& 31)) < (0 : Int32))) (hp_7 : ((p2 <<< ((1 : Int32) &&& 31))).toNatClampNeg ≤ 96) (hp7 : own_cmp fn_a0 b5 p2 o4) (hp21 : own_u16 fn_a0 b16 (p2).toNatClampNeg) : (¬ ((o4 <<< ((1 : Int32) &&& 31)) + (1 : Int32)) < 0) ∧ ((o4 <<< ((1 : Int32) &&& 31)) + (1 : Int32)) < (p2 <<< ((1 : Int32) &&& 31)) := by
  exact (own_cbP hU hb hp7).2
theorem ob_cmpBU_26 (fn_a0 : Nat → Int32) (p2 o4 : Int32) (b5 b16 : Nat → Int32) (hb : 0 ≤ (p2).toInt ∧ (p2).toInt ≤ 48) (hU : ∃ j, j < (p2).toNatClampNeg ∧ (255 : Int32) < fn_a0 j) (hR : ∀ j, j < (p2).toNatClampNeg → 0 ≤ (fn_a0 j).toInt ∧ (fn_a0 j).toInt < 65536) (hp_3 : ¬ (p2 < (0 : Int32))) (hp_4 : (p2).toNatClampNeg ≤ 48) (hp_5 : p2 < (1073741823 : Int32)) (hp_6 : ¬ ((p2 <<< ((1 : Int32) &&& 31)) < (0 : Int32))) (hp_7 : ((p2 <<< ((1 : Int32) &&& 31))).toNatClampNeg ≤ 96) (hp7 : own_cmp fn_a0 b5 p2 o4) (hp21 : own_u16 fn_a0 b16 (p2).toNatClampNeg) : (255 : Int32) < (nar .char ((((b16 ((o4 <<< ((1 : Int32) &&& 31))).toNatClampNeg) &&& (255 : Int32)) ||| (((b16 (((o4 <<< ((1 : Int32) &&& 31)) + (1 : Int32))).toNatClampNeg) &&& (255 : Int32)) <<< ((8 : Int32) &&& 31))).toUInt32.toUInt16.toUInt32.toInt32)) := by
  exact own_cbG hR hb hp7 hp21 hU
theorem ob_cmpBU_27 (fn_a0 : Nat → Int32) (p2 o4 : Int32) (b5 b16 : Nat → Int32) (hb : 0 ≤ (p2).toInt ∧ (p2).toInt ≤ 48) (hU : ∃ j, j < (p2).toNatClampNeg ∧ (255 : Int32) < fn_a0 j) (hR : ∀ j, j < (p2).toNatClampNeg → 0 ≤ (fn_a0 j).toInt ∧ (fn_a0 j).toInt < 65536) (hp_3 : ¬ (p2 < (0 : Int32))) (hp_4 : (p2).toNatClampNeg ≤ 48) (hp_5 : p2 < (1073741823 : Int32)) (hp_6 : ¬ ((p2 <<< ((1 : Int32) &&& 31)) < (0 : Int32))) (hp_7 : ((p2 <<< ((1 : Int32) &&& 31))).toNatClampNeg ≤ 96) (hp7 : own_cmp fn_a0 b5 p2 o4) (hp21 : own_u16 fn_a0 b16 (p2).toNatClampNeg) : own_u16 fn_a0 b16 (p2).toNatClampNeg := by
  exact hp21
def QcmpBU (Z : State) (k_a0 : ClassId) (fn_a0 : Nat → Int32) (a0 : Addr) (p2 : Int32) (h0 : Heap) (n0 : Nat) (v : Option Value) (h : Heap) (L : List Loc) : Prop := ∃ (rr : Addr) (kk5001 : ClassId) (gg5002 : Nat → Int32), v = some (.ref rr) ∧ Fr n0 L ∧ Keep h0 h [] ∧ (n0 ≤ rr) ∧ (h0.size ≤ rr) ∧ Exa Z h rr "[B" ∧ qA Z h rr kk5001 .byte (p2 <<< ((1 : Int32) &&& 31)) (fun i => .int (gg5002 i)) ∧ (own_u16 fn_a0 gg5002 (p2).toNatClampNeg)
theorem rmcmpBU (l : Launch) (Z : State) (A0 : Array Value) (hw : ∀ d ∈ tables_1, d.before A0 Z = true) (ws : List Jvm.Cond) (k_a0 : ClassId) (fn_a0 : Nat → Int32) (a0 : Addr) (p2 : Int32) (h0 : Heap) (n0 : Nat) (Z0 : n0 ≤ h0.size) (P_V_a0 : qA Z h0 a0 k_a0 .char p2 (fun i => .int (fn_a0 i))) (P_S_UD : Sta Z h0 cU "$assertionsDisabled" "Z" (.int 1)) (P_S_HI_BYTE_SHIFT : Sta Z h0 cU "HI_BYTE_SHIFT" "I" (.int 0)) (P_S_LO_BYTE_SHIFT : Sta Z h0 cU "LO_BYTE_SHIFT" "I" (.int 8)) (hb : 0 ≤ (p2).toInt ∧ (p2).toInt ≤ 48) (hU : ∃ j, j < (p2).toNatClampNeg ∧ (255 : Int32) < fn_a0 j) (hR : ∀ j, j < (p2).toNatClampNeg → 0 ≤ (fn_a0 j).toInt ∧ (fn_a0 j).toInt < 65536) (hp_3 : ¬ (p2 < (0 : Int32))) (hp_4 : (p2).toNatClampNeg ≤ 48) (hp_5 : p2 < (1073741823 : Int32)) (hp_6 : ¬ ((p2 <<< ((1 : Int32) &&& 31)) < (0 : Int32))) (hp_7 : ((p2 <<< ((1 : Int32) &&& 31))).toNatClampNeg ≤ 96) :
  qM l Z (⟨"java/lang/StringUTF16", "compress", "([CII)[B"⟩ : MethodName) jdk_52_method_16_code 6 (some (.array .byte)) ws ({ frames := 3, cells := 2, slots := 144, locals := 40 } : Room) #[(.ref a0), (.int 0), (.int p2)] h0 (QcmpBU Z k_a0 fn_a0 a0 p2 h0 n0) 2 144 := own_enter (plainFor_of_name pn_putc) (fun m => ef_cmpBU m a0 p2) fun p e s m below meth c s₁ hx hby hml hlk hown hnm X0 e0 hZ hrt => by
 have hwd := qw hw
 have N0 := Fr.nil n0
 show qG p e below _ (s₁.setTop (mkF m 0 #[vR a0, vI 0, vI p2, .unset, .unset, .unset] []))
 refine qb (fun _ k => XS.iloadN X0.here hx rfl (own_e hby d37 0 rfl) rfl k) ?_
 obtain ⟨T1, h1, k1, X1, e1, E1, A1, Ax1, st1⟩ := newPE X0 hx hZ (hwd 3 rfl) e0 (g := (mkF m 1 #[vR a0, vI 0, vI p2, .unset, .unset, .unset] [(.int p2)])) rfl (own_e hby d37 1 rfl) rfl hp_3 (cap := 48) hp_4 (by decide) (by decide) (by decide) (ad := "[B") (by decide)
 obtain ⟨b1, g1⟩ : ∃ z, z = h0.size := ⟨_, rfl⟩
 have ge_b1 : n0 ≤ b1 := ql Z0 (Nat.le_of_eq g1.symm)
 have sz_b1 := ql (Keep.refl h0 []).1 (Nat.le_of_eq g1.symm)
 have K1 : Keep h0 h1 [] := (Keep.refl h0 []).ext E1
 have Z1 := ql Z0 E1.1
 rw [← g1] at A1 Ax1 st1
 have V1 : qA Z h1 b1 k1 .byte p2 (fun i => .int ((fun _ => (0 : Int32)) i)) := own_arfNew A1 hp_3
 refine qb st1 ?_
 show qG p e below _ (T1.setTop (mkF m 3 #[vR a0, vI 0, vI p2, .unset, .unset, .unset] [(.ref b1)]))
 refine qb (fun _ k => XS.astoreN X1.here hx rfl (own_e hby d37 2 rfl) rfl rfl (l' := #[vR a0, vI 0, vI p2, vR b1, .unset, .unset]) rfl k) ?_
 show qG p e below _ (T1.setTop (mkF m 4 #[vR a0, vI 0, vI p2, vR b1, .unset, .unset] []))
 refine qb (fun _ k => XS.aloadN X1.here hx rfl (own_e hby d37 3 rfl) rfl rfl k) ?_
 refine qb (fun _ k => XS.iloadN X1.here hx rfl (own_e hby d37 4 rfl) rfl k) ?_
 refine qb (fun _ k => XS.aloadN X1.here hx rfl (own_e hby d37 5 rfl) rfl rfl k) ?_
 refine qb (fun _ k => XS.iconst X1.here hx rfl (own_e hby d37 6 rfl) k) ?_
 refine qb (fun _ k => XS.iloadN X1.here hx rfl (own_e hby d37 7 rfl) rfl k) ?_
 have F2 := (P_V_a0.ext E1)
 obtain ⟨_, T3, Lc3, X3, hQ3, st3⟩ := own_cS X1 hx hZ hown hml (rmcmp l Z A0 hw [] k_a0 fn_a0 k1 (fun _ => (0 : Int32)) a0 b1 p2 h1 n0 Z1 F2 V1 hb (qn P_V_a0.lt (Nat.le_of_eq g1.symm)) ge_b1) (hwd 245 rfl) (hwd 246 rfl) (hwd 243 rfl) (hwd 247 rfl) (by decide) pd_245 e1 (g := (mkF m 9 #[vR a0, vI 0, vI p2, vR b1, .unset, .unset] [(.int p2), (.int 0), (.ref b1), (.int 0), (.ref a0)])) (rest := []) rfl rfl rfl rfl (own_e hby d37 8 rfl) rfl
 obtain ⟨o4, b5, rfl, Nq3, Kq3, F6, hp7⟩ := hQ3
 have N3 := Fr.app N0 Nq3
 have K3 : Keep h0 T3.heap [] := K1.trans Kq3 ((allS (Or.inr sz_b1) all0))
 have Z3 := ql Z1 Kq3.1
 refine qb st3 ?_
 show qG p e below _ (T3.setTop (mkF m 12 #[vR a0, vI 0, vI p2, vR b1, .unset, .unset] [(.int o4)]))
 refine qb (fun _ k => XS.istore X3.here hx rfl (own_e hby d37 9 rfl) rfl (l' := #[vR a0, vI 0, vI p2, vR b1, vI o4, .unset]) rfl k) ?_
 show qG p e below _ (T3.setTop (mkF m 14 #[vR a0, vI 0, vI p2, vR b1, vI o4, .unset] []))
 refine qb (fun _ k => XS.iload X3.here hx rfl (own_e hby d37 10 rfl) rfl k) ?_
 refine qb (fun _ k => XS.iloadN X3.here hx rfl (own_e hby d37 11 rfl) rfl k) ?_
 have hd8 : ¬ (o4 = p2) := (ob_cmpBU_23 fn_a0 p2 o4 b5 hb hU hR hp_3 hp_4 hp_5 hp_6 hp_7 hp7)
 refine qb (fun _ k => XS.icmpNo X3.here hx rfl (own_e hby d37 12 rfl) rfl (feq hd8).1 k) ?_
 show qG p e below _ (T3.setTop (mkF m 20 #[vR a0, vI 0, vI p2, vR b1, vI o4, .unset] []))
 refine qb (fun _ k => XS.aloadN X3.here hx rfl (own_e hby d37 13 rfl) rfl rfl k) ?_
 refine qb (fun _ k => XS.iloadN X3.here hx rfl (own_e hby d37 14 rfl) rfl k) ?_
 refine qb (fun _ k => XS.iloadN X3.here hx rfl (own_e hby d37 15 rfl) rfl k) ?_
 have F9 := (F2.keep Kq3 (ninS (qn P_V_a0.lt (Nat.le_of_eq g1.symm)) nin0))
 have F10 := qk (P_S_UD.ext E1) Kq3 (allS (qx Ax1) all0)
 have F11 := qk (P_S_HI_BYTE_SHIFT.ext E1) Kq3 (allS (qx Ax1) all0)
 have F12 := qk (P_S_LO_BYTE_SHIFT.ext E1) Kq3 (allS (qx Ax1) all0)
 obtain ⟨_, T13, Lc13, X13, hQ13, st13⟩ := own_cS X3 hx hZ hown hml (rmtob l Z A0 hw [] k_a0 fn_a0 a0 p2 T3.heap n0 Z3 F9 F10 F11 F12 hb hp_3 hp_5 hp_6 hp_7) (hwd 251 rfl) (hwd 252 rfl) (hwd 243 rfl) (hwd 253 rfl) (by decide) pd_241 rfl (g := (mkF m 23 #[vR a0, vI 0, vI p2, vR b1, vI o4, .unset] [(.int p2), (.int 0), (.ref a0)])) (rest := []) rfl rfl rfl rfl (own_e hby d37 16 rfl) rfl
 obtain ⟨b14, b15, b16, rfl, Nq13, Kq13, hp17, hp18, F19, F20, hp21⟩ := hQ13
 have N13 := Fr.app N3 Nq13
 have K13 : Keep h0 T13.heap [] := K3.trans Kq13 (all0)
 have Z13 := ql Z3 Kq13.1
 have sz_b14 := ql K3.1 hp18
 refine qb st13 ?_
 show qG p e below _ (T13.setTop (mkF m 26 #[vR a0, vI 0, vI p2, vR b1, vI o4, .unset] [(.ref b14)]))
 refine qb (fun _ k => XS.astore X13.here hx rfl (own_e hby d37 17 rfl) rfl rfl (l' := #[vR a0, vI 0, vI p2, vR b1, vI o4, vR b14]) rfl k) ?_
 show qG p e below _ (T13.setTop (mkF m 28 #[vR a0, vI 0, vI p2, vR b1, vI o4, vR b14] []))
 refine qb (fun _ k => XS.aload X13.here hx rfl (own_e hby d37 18 rfl) rfl rfl k) ?_
 refine qb (fun _ k => XS.iload X13.here hx rfl (own_e hby d37 19 rfl) rfl k) ?_
 have F22 := qk F10 Kq13 all0
 have F23 := qk F11 Kq13 all0
 have F24 := qk F12 Kq13 all0
 obtain ⟨_, T25, Lc25, X25, hQ25, st25⟩ := own_cS X13 hx hZ hown hml (rmgetc l Z A0 hw [] b15 (p2 <<< ((1 : Int32) &&& 31)) b16 b14 o4 T13.heap n0 Z13 F20 F22 F23 F24 (ob_cmpBU_24 fn_a0 p2 o4 b5 b16 hb hU hR hp_3 hp_4 hp_5 hp_6 hp_7 hp7 hp21) (ob_cmpBU_25 fn_a0 p2 o4 b5 b16 hb hU hR hp_3 hp_4 hp_5 hp_6 hp_7 hp7 hp21)) (hwd 267 rfl) (hwd 268 rfl) (hwd 243 rfl) (hwd 269 rfl) (by decide) pd_267 rfl (g := (mkF m 32 #[vR a0, vI 0, vI p2, vR b1, vI o4, vR b14] [(.int o4), (.ref b14)])) (rest := []) rfl rfl rfl rfl (own_e hby d37 20 rfl) rfl
 obtain ⟨rfl, Nq25, eq25⟩ := hQ25
 have N25 := Fr.app N13 Nq25
 refine qb st25 ?_
 show qG p e below _ (T25.setTop (mkF m 35 #[vR a0, vI 0, vI p2, vR b1, vI o4, vR b14] [(.int (nar .char ((((b16 ((o4 <<< ((1 : Int32) &&& 31))).toNatClampNeg) &&& (255 : Int32)) ||| (((b16 (((o4 <<< ((1 : Int32) &&& 31)) + (1 : Int32))).toNatClampNeg) &&& (255 : Int32)) <<< ((8 : Int32) &&& 31))).toUInt32.toUInt16.toUInt32.toInt32)))]))
 refine qb (fun _ k => XS.sipush X25.here hx rfl (own_e hby d37 21 rfl) k) ?_
 have hd26 : (255 : Int32) < (nar .char ((((b16 ((o4 <<< ((1 : Int32) &&& 31))).toNatClampNeg) &&& (255 : Int32)) ||| (((b16 (((o4 <<< ((1 : Int32) &&& 31)) + (1 : Int32))).toNatClampNeg) &&& (255 : Int32)) <<< ((8 : Int32) &&& 31))).toUInt32.toUInt16.toUInt32.toInt32)) := (ob_cmpBU_26 fn_a0 p2 o4 b5 b16 hb hU hR hp_3 hp_4 hp_5 hp_6 hp_7 hp7 hp21)
 refine qb (fun _ k => XS.icmpYes X25.here hx rfl (pc0 := 38) (pc' := 54) rfl (own_e hby d37 22 rfl) rfl (tlt hd26).2.2.1 (by decide) (by decide) k) ?_
 show qG p e below _ (T25.setTop (mkF m 54 #[vR a0, vI 0, vI p2, vR b1, vI o4, vR b14] []))
 refine qb (fun _ k => XS.aload X25.here hx rfl (own_e hby d37 23 rfl) rfl rfl k) ?_
 exact own_retR X25 hx hrt (by decide) rfl (own_e hby d37 24 rfl) hlk eq25 ⟨b14, b15, b16, rfl, N25, K13, hp17, sz_b14, F19, F20, (ob_cmpBU_27 fn_a0 p2 o4 b5 b16 hb hU hR hp_3 hp_4 hp_5 hp_6 hp_7 hp7 hp21)⟩ (by decide) (by decide)
theorem ef_si4U (m : MethodId) (a0 a1 : Addr) (p3 : Int32) : entryFrame m #[(.ref a0), (.ref a1), (.int 0), (.int p3), .null] 6 = mkF m 0 #[vR a0, vR a1, vI 0, vI p3, .val .null, .unset] [] := rfl
def Qsi4U (Z : State) (k_a1 : ClassId) (fn_a1 : Nat → Int32) (f_CS : Int32) (a0 a1 : Addr) (p3 f_a0_coder : Int32) (f_a0_value : Value) (h0 : Heap) (n0 : Nat) (v : Option Value) (h : Heap) (L : List Loc) : Prop := ∃ (r5001 : Addr) (kk5002 : ClassId) (gg5003 : Nat → Int32), v = none ∧ Fr n0 L ∧ Keep h0 h [a0] ∧ (n0 ≤ r5001) ∧ (h0.size ≤ r5001) ∧ Exa Z h a0 "java/lang/String" ∧ Fld Z h a0 cS "coder" "B" (.int (nar .byte (nar .byte ((((p3 - (p3 <<< ((1 : Int32) &&& 31))).toUInt32 >>> ((31 : Int32) &&& 31).toUInt32).toInt32).toInt8.toInt32)))) ∧ Fld Z h a0 cS "value" "[B" (.ref r5001) ∧ Exa Z h r5001 "[B" ∧ qA Z h r5001 kk5002 .byte (p3 <<< ((1 : Int32) &&& 31)) (fun i => .int (gg5003 i)) ∧ ((∃ (b6_si4U : Nat → Int32), (own_u16 fn_a1 b6_si4U (p3).toNatClampNeg) ∧ gg5003 = b6_si4U))
theorem rmsi4U (l : Launch) (Z : State) (A0 : Array Value) (hw : ∀ d ∈ tables_1, d.before A0 Z = true) (ws : List Jvm.Cond) (k_a1 : ClassId) (fn_a1 : Nat → Int32) (f_CS : Int32) (a0 a1 : Addr) (p3 f_a0_coder : Int32) (f_a0_value : Value) (h0 : Heap) (n0 : Nat) (Z0 : n0 ≤ h0.size) (P_E_a0 : Exa Z h0 a0 "java/lang/String") (P_V_a1 : qA Z h0 a1 k_a1 .char p3 (fun i => .int (fn_a1 i))) (P_S_CS : Sta Z h0 cS "COMPACT_STRINGS" "Z" (.int f_CS)) (hn_CS : ¬ (f_CS = (0 : Int32))) (P_S_UD : Sta Z h0 cU "$assertionsDisabled" "Z" (.int 1)) (P_S_HI_BYTE_SHIFT : Sta Z h0 cU "HI_BYTE_SHIFT" "I" (.int 0)) (P_S_LO_BYTE_SHIFT : Sta Z h0 cU "LO_BYTE_SHIFT" "I" (.int 8)) (hb : 0 ≤ (p3).toInt ∧ (p3).toInt ≤ 48) (hU : ∃ j, j < (p3).toNatClampNeg ∧ (255 : Int32) < fn_a1 j) (hR : ∀ j, j < (p3).toNatClampNeg → 0 ≤ (fn_a1 j).toInt ∧ (fn_a1 j).toInt < 65536) (ha5 : ¬ (p3 = (0 : Int32))) (hp_5 : ¬ (p3 < (0 : Int32))) (hp_6 : (p3).toNatClampNeg ≤ 48) (hp_7 : p3 < (1073741823 : Int32)) (hp_8 : ¬ ((p3 <<< ((1 : Int32) &&& 31)) < (0 : Int32))) (hp_9 : ((p3 <<< ((1 : Int32) &&& 31))).toNatClampNeg ≤ 96) (P_F_a0_coder : Fld Z h0 a0 cS "coder" "B" (.int f_a0_coder)) (g_a0 : n0 ≤ a0) (P_F_a0_value : Fld Z h0 a0 cS "value" "[B" f_a0_value) :
  qM l Z (⟨"java/lang/String", "<init>", "([CIILjava/lang/Void;)V"⟩ : MethodName) jdk_42_method_149_code 6 none ws ({ frames := 4, cells := 2, slots := 144, locals := 57 } : Room) #[(.ref a0), (.ref a1), (.int 0), (.int p3), .null] h0 (Qsi4U Z k_a1 fn_a1 f_CS a0 a1 p3 f_a0_coder f_a0_value h0 n0) 2 144 := own_enter (plainFor_of_name pn_si4L) (fun m => ef_si4U m a0 a1 p3) fun p e s m below meth c s₁ hx hby hml hlk hown hnm X0 e0 hZ hrt => by
 have hwd := qw hw
 have N0 := Fr.nil n0
 show qG p e below _ (s₁.setTop (mkF m 0 #[vR a0, vR a1, vI 0, vI p3, .val .null, .unset] []))
 refine qb (fun _ k => XS.aloadN X0.here hx rfl (own_e hby d36 0 rfl) rfl rfl k) ?_
 obtain ⟨T1, X1, e1, st1⟩ := initO X0 hx hZ hown (hwd 123 rfl) (hwd 29 rfl) (hwd 30 rfl) e0 (g := (mkF m 1 #[vR a0, vR a1, vI 0, vI p3, .val .null, .unset] [(.ref a0)])) rfl (by rw [hml]; rfl) rfl (own_e hby d36 1 rfl) (by decide) (W := 0) (by show 2 * 0 + _ ≤ _; exact Nat.le_of_eq rfl) (by decide)
 refine qb st1 ?_
 show qG p e below _ (T1.setTop (mkF m 4 #[vR a0, vR a1, vI 0, vI p3, .val .null, .unset] []))
 refine qb (fun _ k => XS.iloadN X1.here hx rfl (own_e hby d36 2 rfl) rfl k) ?_
 refine qb (fun _ k => XS.ifYes X1.here hx rfl (pc0 := 5) (pc' := 27) rfl (own_e hby d36 3 rfl) rfl ((if0 _ _).trans (feq ha5).2) (by decide) (by decide) k) ?_
 show qG p e below _ (T1.setTop (mkF m 27 #[vR a0, vR a1, vI 0, vI p3, .val .null, .unset] []))
 obtain ⟨T2, X2, e2, st2⟩ := getS2 X1 hx hZ hown (host := "") (Or.inl (hwd 57 rfl)) Via.refl e1 P_S_CS (g := (mkF m 27 #[vR a0, vR a1, vI 0, vI p3, .val .null, .unset] [])) rfl (own_e hby d36 4 rfl)
 refine qb st2 ?_
 refine qb (fun _ k => XS.ifNo X2.here hx rfl (own_e hby d36 5 rfl) rfl ((if0 _ _).trans (feq hn_CS).1) k) ?_
 show qG p e below _ (T2.setTop (mkF m 33 #[vR a0, vR a1, vI 0, vI p3, .val .null, .unset] []))
 refine qb (fun _ k => XS.aloadN X2.here hx rfl (own_e hby d36 6 rfl) rfl rfl k) ?_
 refine qb (fun _ k => XS.iloadN X2.here hx rfl (own_e hby d36 7 rfl) rfl k) ?_
 refine qb (fun _ k => XS.iloadN X2.here hx rfl (own_e hby d36 8 rfl) rfl k) ?_
 obtain ⟨_, T3, Lc3, X3, hQ3, st3⟩ := own_cS X2 hx hZ hown hml (rmcmpBU l Z A0 hw [] k_a1 fn_a1 a1 p3 h0 n0 Z0 P_V_a1 P_S_UD P_S_HI_BYTE_SHIFT P_S_LO_BYTE_SHIFT hb hU hR hp_5 hp_6 hp_7 hp_8 hp_9) (hwd 241 rfl) (hwd 242 rfl) (hwd 243 rfl) (hwd 244 rfl) (by decide) pd_241 e2 (g := (mkF m 36 #[vR a0, vR a1, vI 0, vI p3, .val .null, .unset] [(.int p3), (.int 0), (.ref a1)])) (rest := []) rfl rfl rfl rfl (own_e hby d36 9 rfl) rfl
 obtain ⟨b4, b5, b6, rfl, Nq3, Kq3, hp7, hp8, F9, F10, hp11⟩ := hQ3
 have N3 := Fr.app N0 Nq3
 have K3 : Keep h0 T3.heap [a0] := (Keep.refl h0 [a0]).trans Kq3 (all0)
 have Z3 := ql Z0 Kq3.1
 have sz_b4 := ql (Keep.refl h0 [a0]).1 hp8
 refine qb st3 ?_
 show qG p e below _ (T3.setTop (mkF m 39 #[vR a0, vR a1, vI 0, vI p3, .val .null, .unset] [(.ref b4)]))
 refine qb (fun _ k => XS.astore X3.here hx rfl (own_e hby d36 10 rfl) rfl rfl (l' := #[vR a0, vR a1, vI 0, vI p3, .val .null, vR b4]) rfl k) ?_
 show qG p e below _ (T3.setTop (mkF m 41 #[vR a0, vR a1, vI 0, vI p3, .val .null, vR b4] []))
 refine qb (fun _ k => XS.aloadN X3.here hx rfl (own_e hby d36 11 rfl) rfl rfl k) ?_
 refine qb (fun _ k => XS.aload X3.here hx rfl (own_e hby d36 12 rfl) rfl rfl k) ?_
 refine qb (fun _ k => XS.iloadN X3.here hx rfl (own_e hby d36 13 rfl) rfl k) ?_
 obtain ⟨_, T12, Lc12, X12, hQ12, st12⟩ := own_cS X3 hx hZ hown hml (rmcfaL l Z A0 hw [] b5 (p3 <<< ((1 : Int32) &&& 31)) b6 b4 p3 T3.heap n0 Z3 F10) (hwd 248 rfl) (hwd 249 rfl) (hwd 243 rfl) (hwd 250 rfl) (by decide) pd_248 rfl (g := (mkF m 45 #[vR a0, vR a1, vI 0, vI p3, .val .null, vR b4] [(.int p3), (.ref b4), (.ref a0)])) (rest := [(.ref a0)]) rfl rfl rfl rfl (own_e hby d36 14 rfl) rfl
 obtain ⟨rfl, Nq12, eq12⟩ := hQ12
 have N12 := Fr.app N3 Nq12
 refine qb st12 ?_
 show qG p e below _ (T12.setTop (mkF m 48 #[vR a0, vR a1, vI 0, vI p3, .val .null, vR b4] [(.int (nar .byte ((((p3 - (p3 <<< ((1 : Int32) &&& 31))).toUInt32 >>> ((31 : Int32) &&& 31).toUInt32).toInt32).toInt8.toInt32))), (.ref a0)]))
 have F13 := (P_E_a0.keep Kq3)
 have F14 := (P_F_a0_coder.keep Kq3 nin0)
 obtain ⟨T15, h15, X15, e15, W15, st15⟩ := putFN X12 hx hZ hown (hwd 58 rfl) Via.refl eq12 F14 F13 (Or.inr ⟨(hwd 5 rfl), rfl, hnm⟩) (hwd 2 rfl) (ty := .byte) (v' := (.int (nar .byte (nar .byte ((((p3 - (p3 <<< ((1 : Int32) &&& 31))).toUInt32 >>> ((31 : Int32) &&& 31).toUInt32).toInt32).toInt8.toInt32))))) (by decide) rfl (fits_nar_byte _) (g := (mkF m 48 #[vR a0, vR a1, vI 0, vI p3, .val .null, vR b4] [(.int (nar .byte ((((p3 - (p3 <<< ((1 : Int32) &&& 31))).toUInt32 >>> ((31 : Int32) &&& 31).toUInt32).toInt32).toInt8.toInt32))), (.ref a0)])) rfl rfl (own_e hby d36 15 rfl)
 have Fw15 : Fld Z h15 a0 cS "coder" "B" (.int (nar .byte (nar .byte ((((p3 - (p3 <<< ((1 : Int32) &&& 31))).toUInt32 >>> ((31 : Int32) &&& 31).toUInt32).toInt32).toInt8.toInt32)))) := F14.same W15
 have K15 : Keep h0 h15 [a0] := K3.wr W15 (Or.inl (List.mem_of_getElem? (i := 0) rfl))
 have Z15 := ql Z3 (Keep.of_wr W15).1
 have N15 := Fr.snoc X15 N12 g_a0
 refine qb st15 ?_
 show qG p e below _ (T15.setTop (mkF m 51 #[vR a0, vR a1, vI 0, vI p3, .val .null, vR b4] []))
 refine qb (fun _ k => XS.aloadN X15.here hx rfl (own_e hby d36 16 rfl) rfl rfl k) ?_
 refine qb (fun _ k => XS.aload X15.here hx rfl (own_e hby d36 17 rfl) rfl rfl k) ?_
 have F16 := (F13.wr W15)
 have F17 := ((P_F_a0_value.keep Kq3 nin0).other W15 (Or.inr (slot_ne (Or.inr (hwd 4 rfl)) (Or.inr (hwd 5 rfl)) (by decide) (t := (.array .byte)) (t' := .byte) (by decide) (by decide))))
 obtain ⟨T18, h18, X18, e18, W18, st18⟩ := putF X15 hx hZ hown (host := "") (Or.inl (hwd 51 rfl)) Via.refl e15 F17 F16 (Or.inr ⟨(hwd 4 rfl), rfl, hnm⟩) (hwd 2 rfl) (ty := (.array .byte)) (by decide) rfl rfl (g := (mkF m 54 #[vR a0, vR a1, vI 0, vI p3, .val .null, vR b4] [(.ref b4), (.ref a0)])) rfl rfl (own_e hby d36 18 rfl)
 have Fw18 : Fld Z h18 a0 cS "value" "[B" (.ref b4) := F17.same W18
 have K18 : Keep h0 h18 [a0] := K15.wr W18 (Or.inl (List.mem_of_getElem? (i := 0) rfl))
 have Z18 := ql Z15 (Keep.of_wr W18).1
 have N18 := Fr.snoc X18 N15 g_a0
 refine qb st18 ?_
 show qG p e below _ (T18.setTop (mkF m 57 #[vR a0, vR a1, vI 0, vI p3, .val .null, vR b4] []))
 have F19 := (F16.wr W18)
 have F20 := (Fw15.other W18 (Or.inr (slot_ne (Or.inr (hwd 5 rfl)) (Or.inr (hwd 4 rfl)) (by decide) (t := .byte) (t' := (.array .byte)) (by decide) (by decide))))
 have F21 := ((F9.wr W15).wr W18)
 have F22 := ((F10.other W15 (qm P_E_a0.lt hp8)).other W18 (qm P_E_a0.lt hp8))
 exact own_ret0 X18 hx hrt (own_e hby d36 19 rfl) hlk e18 ⟨b4, b5, b6, rfl, N18, K18, hp7, sz_b4, F19, F20, Fw18, F21, F22, ⟨b6, hp11, rfl⟩⟩ (by decide) (by decide)
theorem ef_siU (m : MethodId) (a0 a1 : Addr) : entryFrame m #[(.ref a0), (.ref a1)] 2 = mkF m 0 #[vR a0, vR a1] [] := rfl
def QsiU (Z : State) (k_a1 : ClassId) (n_a1 : Int32) (fn_a1 : Nat → Int32) (f_CS : Int32) (a0 a1 : Addr) (f_a0_coder : Int32) (f_a0_value : Value) (h0 : Heap) (n0 : Nat) (v : Option Value) (h : Heap) (L : List Loc) : Prop := ∃ (r5001 : Addr) (kk5002 : ClassId) (gg5003 : Nat → Int32), v = none ∧ Fr n0 L ∧ Keep h0 h [a0] ∧ (n0 ≤ r5001) ∧ (h0.size ≤ r5001) ∧ Exa Z h a0 "java/lang/String" ∧ Fld Z h a0 cS "coder" "B" (.int (nar .byte (nar .byte ((((n_a1 - (n_a1 <<< ((1 : Int32) &&& 31))).toUInt32 >>> ((31 : Int32) &&& 31).toUInt32).toInt32).toInt8.toInt32)))) ∧ Fld Z h a0 cS "value" "[B" (.ref r5001) ∧ Exa Z h r5001 "[B" ∧ qA Z h r5001 kk5002 .byte (n_a1 <<< ((1 : Int32) &&& 31)) (fun i => .int (gg5003 i)) ∧ ((∃ (b5_siU : Nat → Int32), ((∃ (b6_si4U : Nat → Int32), (own_u16 fn_a1 b6_si4U (n_a1).toNatClampNeg) ∧ b5_siU = b6_si4U)) ∧ gg5003 = b5_siU))
theorem rmsiU (l : Launch) (Z : State) (A0 : Array Value) (hw : ∀ d ∈ tables_1, d.before A0 Z = true) (ws : List Jvm.Cond) (k_a1 : ClassId) (n_a1 : Int32) (fn_a1 : Nat → Int32) (f_CS : Int32) (a0 a1 : Addr) (f_a0_coder : Int32) (f_a0_value : Value) (h0 : Heap) (n0 : Nat) (Z0 : n0 ≤ h0.size) (P_E_a0 : Exa Z h0 a0 "java/lang/String") (P_V_a1 : qA Z h0 a1 k_a1 .char n_a1 (fun i => .int (fn_a1 i))) (P_S_CS : Sta Z h0 cS "COMPACT_STRINGS" "Z" (.int f_CS)) (hn_CS : ¬ (f_CS = (0 : Int32))) (P_S_UD : Sta Z h0 cU "$assertionsDisabled" "Z" (.int 1)) (P_S_HI_BYTE_SHIFT : Sta Z h0 cU "HI_BYTE_SHIFT" "I" (.int 0)) (P_S_LO_BYTE_SHIFT : Sta Z h0 cU "LO_BYTE_SHIFT" "I" (.int 8)) (hb : 0 ≤ (n_a1).toInt ∧ (n_a1).toInt ≤ 48) (hU : ∃ j, j < (n_a1).toNatClampNeg ∧ (255 : Int32) < fn_a1 j) (hR : ∀ j, j < (n_a1).toNatClampNeg → 0 ≤ (fn_a1 j).toInt ∧ (fn_a1 j).toInt < 65536) (P_F_a0_coder : Fld Z h0 a0 cS "coder" "B" (.int f_a0_coder)) (P_F_a0_value : Fld Z h0 a0 cS "value" "[B" f_a0_value) (hp_4 : ¬ (n_a1 = (0 : Int32))) (hp_5 : ¬ (n_a1 < (0 : Int32))) (hp_6 : (n_a1).toNatClampNeg ≤ 48) (hp_7 : n_a1 < (1073741823 : Int32)) (hp_8 : ¬ ((n_a1 <<< ((1 : Int32) &&& 31)) < (0 : Int32))) (hp_9 : ((n_a1 <<< ((1 : Int32) &&& 31))).toNatClampNeg ≤ 96) (g_a0 : n0 ≤ a0) :
  qM l Z (⟨"java/lang/String", "<init>", "([C)V"⟩ : MethodName) jdk_42_method_3_code 2 none ws ({ frames := 5, cells := 2, slots := 144, locals := 74 } : Room) #[(.ref a0), (.ref a1)] h0 (QsiU Z k_a1 n_a1 fn_a1 f_CS a0 a1 f_a0_coder f_a0_value h0 n0) 2 144 := own_enter (plainFor_of_name pn_si4L) (fun m => ef_siU m a0 a1) fun p e s m below meth c s₁ hx hby hml hlk hown hnm X0 e0 hZ hrt => by
 have hwd := qw hw
 have N0 := Fr.nil n0
 show qG p e below _ (s₁.setTop (mkF m 0 #[vR a0, vR a1] []))
 refine qb (fun _ k => XS.aloadN X0.here hx rfl (own_e hby d35 0 rfl) rfl rfl k) ?_
 refine qb (fun _ k => XS.aloadN X0.here hx rfl (own_e hby d35 1 rfl) rfl rfl k) ?_
 refine qb (fun _ k => XS.iconst X0.here hx rfl (own_e hby d35 2 rfl) k) ?_
 refine qb (fun _ k => XS.aloadN X0.here hx rfl (own_e hby d35 3 rfl) rfl rfl k) ?_
 obtain ⟨cl1, Ar1, qq1, S1, M1, H1, G1⟩ := id P_V_a1
 refine qb (fun t k => X0.arraylength hx (by rw [e0]; exact Ar1.1) (State.isArrayOf_alike hZ.alike Ar1.2.1) (g := (mkF m 4 #[vR a0, vR a1] [(.ref a1), (.int 0), (.ref a1), (.ref a0)])) rfl rfl (own_e hby d35 4 rfl) _ k) ?_
 rw [len_of S1 M1]
 show qG p e below _ (s₁.setTop (mkF m 5 #[vR a0, vR a1] [(.int n_a1), (.int 0), (.ref a1), (.ref a0)]))
 refine qb (fun _ k => XS.aconstNull X0.here hx rfl (own_e hby d35 5 rfl) k) ?_
 obtain ⟨_, T2, Lc2, X2, hQ2, st2⟩ := own_cI X0 hx hZ hown hml (rmsi4U l Z A0 hw [] k_a1 fn_a1 f_CS a0 a1 n_a1 f_a0_coder f_a0_value h0 n0 Z0 P_E_a0 P_V_a1 P_S_CS hn_CS P_S_UD P_S_HI_BYTE_SHIFT P_S_LO_BYTE_SHIFT hb hU hR hp_4 hp_5 hp_6 hp_7 hp_8 hp_9 P_F_a0_coder g_a0 P_F_a0_value) (hwd 238 rfl) (hwd 239 rfl) (hwd 1 rfl) (hwd 240 rfl) (by decide) pd_238 e0 rfl (g := (mkF m 6 #[vR a0, vR a1] [.null, (.int n_a1), (.int 0), (.ref a1), (.ref a0)])) (rest := []) rfl rfl rfl rfl (own_e hby d35 6 rfl) rfl
 obtain ⟨b3, b4, b5, rfl, Nq2, Kq2, hp6, hp7, F8, F9, F10, F11, F12, hp13⟩ := hQ2
 have N2 := Fr.app N0 Nq2
 have K2 : Keep h0 T2.heap [a0] := (Keep.refl h0 [a0]).trans Kq2 ((allS (Or.inl (List.mem_of_getElem? (i := 0) rfl)) all0))
 have Z2 := ql Z0 Kq2.1
 have sz_b3 := ql (Keep.refl h0 [a0]).1 hp7
 refine qb st2 ?_
 show qG p e below _ (T2.setTop (mkF m 9 #[vR a0, vR a1] []))
 exact own_ret0 X2 hx hrt (own_e hby d35 7 rfl) hlk rfl ⟨b3, b4, b5, rfl, N2, K2, hp6, sz_b3, F8, F9, F10, F11, F12, ⟨b5, hp13, rfl⟩⟩ (by decide) (by decide)
theorem d54 : own_ds jdk_43_method_46_code [(0, .iconst 1, 1), (1, .newarray .byte, 2), (3, .dup, 1), (4, .iconst 0, 1), (5, .iload_n 0, 1), (6, .i2b, 1), (7, .bastore, 1), (8, .areturn, 1)] = true := by decide +kernel
theorem pn_l1tb : plainName "java/lang/StringLatin1" = true := by first | (simp [plainName, overriddenIn]; done) | decide +kernel
theorem ef_l1tb (m : MethodId) (p0 : Int32) : entryFrame m #[(.int p0)] 1 = mkF m 0 #[vI p0] [] := rfl
def Ql1tb (Z : State) (p0 : Int32) (h0 : Heap) (n0 : Nat) (v : Option Value) (h : Heap) (L : List Loc) : Prop := ∃ (b1 : Addr) (k1 : ClassId), v = some (.ref b1) ∧ Fr n0 L ∧ Keep h0 h [] ∧ (n0 ≤ b1) ∧ (h0.size ≤ b1) ∧ Exa Z h b1 "[B" ∧ qA Z h b1 k1 .byte (1 : Int32) (fun i => .int ((qu (fun _ => (0 : Int32)) 0 (nar .byte (p0.toInt8.toInt32))) i))
theorem rml1tb (l : Launch) (Z : State) (A0 : Array Value) (hw : ∀ d ∈ tables_1, d.before A0 Z = true) (ws : List Jvm.Cond) (p0 : Int32) (h0 : Heap) (n0 : Nat) (Z0 : n0 ≤ h0.size) :
  qM l Z (⟨"java/lang/StringLatin1", "toBytes", "(C)[B"⟩ : MethodName) jdk_43_method_46_code 1 (some (.array .byte)) ws ({ frames := 0, cells := 1, slots := 1, locals := 0 } : Room) #[(.int p0)] h0 (Ql1tb Z p0 h0 n0) 1 1 := own_enter (plainFor_of_name pn_l1tb) (fun m => ef_l1tb m p0) fun p e s m below meth c s₁ hx hby hml hlk hown hnm X0 e0 hZ hrt => by
 have hwd := qw hw
 have N0 := Fr.nil n0
 show qG p e below _ (s₁.setTop (mkF m 0 #[vI p0] []))
 refine qb (fun _ k => XS.iconst X0.here hx rfl (own_e hby d54 0 rfl) k) ?_
 obtain ⟨T1, h1, k1, X1, e1, E1, A1, Ax1, st1⟩ := newPE X0 hx hZ (hwd 3 rfl) e0 (g := (mkF m 1 #[vI p0] [(.int 1)])) rfl (own_e hby d54 1 rfl) rfl (by decide) (cap := 1) (by decide) (by decide) (by decide) (by decide) (ad := "[B") (by decide)
 obtain ⟨b1, g1⟩ : ∃ z, z = h0.size := ⟨_, rfl⟩
 have ge_b1 : n0 ≤ b1 := ql Z0 (Nat.le_of_eq g1.symm)
 have sz_b1 := ql (Keep.refl h0 []).1 (Nat.le_of_eq g1.symm)
 have K1 : Keep h0 h1 [] := (Keep.refl h0 []).ext E1
 have Z1 := ql Z0 E1.1
 rw [← g1] at A1 Ax1 st1
 have V1 : qA Z h1 b1 k1 .byte (1 : Int32) (fun i => .int ((fun _ => (0 : Int32)) i)) := own_arfNew A1 (by decide)
 refine qb st1 ?_
 show qG p e below _ (T1.setTop (mkF m 3 #[vI p0] [(.ref b1)]))
 refine qb (fun _ k => XS.dup X1.here hx rfl (own_e hby d54 2 rfl) rfl rfl k) ?_
 refine qb (fun _ k => XS.iconst X1.here hx rfl (own_e hby d54 3 rfl) k) ?_
 refine qb (fun _ k => XS.iloadN X1.here hx rfl (own_e hby d54 4 rfl) rfl k) ?_
 refine qb (fun _ k => XS.i2b X1.here hx rfl (own_e hby d54 5 rfl) rfl k) ?_
 obtain ⟨cl2, Ar2, qq2, S2, M2, H2, G2⟩ := id V1
 have hin2 : ¬ ((0 : Int32) < 0 ∨ cl2.slots.size ≤ ((0 : Int32)).toNatClampNeg) := inb_of S2 ⟨by decide, by decide⟩
 obtain ⟨T3, h3, X3, e3, W3, st3⟩ := stB X1 hx hZ e1 Ar2 (j := (0 : Int32)) hin2 (g := (mkF m 7 #[vI p0] [(.int (p0.toInt8.toInt32)), (.int 0), (.ref b1), (.ref b1)])) rfl rfl (own_e hby d54 6 rfl)
 have V3 : qA Z h3 b1 k1 .byte (1 : Int32) (fun i => .int ((qu (fun _ => (0 : Int32)) 0 (nar .byte (p0.toInt8.toInt32))) i)) := own_arfSetI Ar2 qq2 S2 M2 H2 G2 (fits_nar_byte _) W3
 have K3 : Keep h0 h3 [] := K1.wr W3 (Or.inr sz_b1)
 have Z3 := ql Z1 (Keep.of_wr W3).1
 have N3 := Fr.snoc X3 N0 ge_b1
 refine qb st3 ?_
 have F4 := (Ax1.wr W3)
 exact own_retR X3 hx hrt (by decide) rfl (own_e hby d54 7 rfl) hlk e3 ⟨_, _, rfl, N3, K3, ge_b1, sz_b1, F4, V3⟩ (by decide) (by decide)
theorem d56 : own_ds jdk_52_method_24_code [(0, .iconst 2, 1), (1, .newarray .byte, 2), (3, .astore_n 1, 1), (4, .aload_n 1, 1), (5, .iconst 0, 1), (6, .iload_n 0, 1), (7, .invokestatic 111, 3), (10, .aload_n 1, 1), (11, .areturn, 1)] = true := by decide +kernel
theorem ef_u16tb (m : MethodId) (p0 : Int32) : entryFrame m #[(.int p0)] 2 = mkF m 0 #[vI p0, .unset] [] := rfl
def Qu16tb (Z : State) (p0 : Int32) (h0 : Heap) (n0 : Nat) (v : Option Value) (h : Heap) (L : List Loc) : Prop := ∃ (b1 : Addr) (k1 : ClassId), v = some (.ref b1) ∧ Fr n0 L ∧ Keep h0 h [] ∧ (n0 ≤ b1) ∧ (h0.size ≤ b1) ∧ Exa Z h b1 "[B" ∧ qA Z h b1 k1 .byte (2 : Int32) (fun i => .int ((qu (qu (fun _ => (0 : Int32)) 0 (nar .byte (p0.toInt8.toInt32))) 1 (nar .byte ((p0 >>> ((8 : Int32) &&& 31)).toInt8.toInt32))) i))
theorem rmu16tb (l : Launch) (Z : State) (A0 : Array Value) (hw : ∀ d ∈ tables_1, d.before A0 Z = true) (ws : List Jvm.Cond) (p0 : Int32) (h0 : Heap) (n0 : Nat) (Z0 : n0 ≤ h0.size) (P_S_UD : Sta Z h0 cU "$assertionsDisabled" "Z" (.int 1)) (P_S_HI_BYTE_SHIFT : Sta Z h0 cU "HI_BYTE_SHIFT" "I" (.int 0)) (P_S_LO_BYTE_SHIFT : Sta Z h0 cU "LO_BYTE_SHIFT" "I" (.int 8)) :
  qM l Z (⟨"java/lang/StringUTF16", "toBytes", "(C)[B"⟩ : MethodName) jdk_52_method_24_code 2 (some (.array .byte)) ws ({ frames := 1, cells := 1, slots := 2, locals := 14 } : Room) #[(.int p0)] h0 (Qu16tb Z p0 h0 n0) 1 2 := own_enter (plainFor_of_name pn_putc) (fun m => ef_u16tb m p0) fun p e s m below meth c s₁ hx hby hml hlk hown hnm X0 e0 hZ hrt => by
 have hwd := qw hw
 have N0 := Fr.nil n0
 show qG p e below _ (s₁.setTop (mkF m 0 #[vI p0, .unset] []))
 refine qb (fun _ k => XS.iconst X0.here hx rfl (own_e hby d56 0 rfl) k) ?_
 obtain ⟨T1, h1, k1, X1, e1, E1, A1, Ax1, st1⟩ := newPE X0 hx hZ (hwd 3 rfl) e0 (g := (mkF m 1 #[vI p0, .unset] [(.int 2)])) rfl (own_e hby d56 1 rfl) rfl (by decide) (cap := 2) (by decide) (by decide) (by decide) (by decide) (ad := "[B") (by decide)
 obtain ⟨b1, g1⟩ : ∃ z, z = h0.size := ⟨_, rfl⟩
 have ge_b1 : n0 ≤ b1 := ql Z0 (Nat.le_of_eq g1.symm)
 have sz_b1 := ql (Keep.refl h0 []).1 (Nat.le_of_eq g1.symm)
 have K1 : Keep h0 h1 [] := (Keep.refl h0 []).ext E1
 have Z1 := ql Z0 E1.1
 rw [← g1] at A1 Ax1 st1
 have V1 : qA Z h1 b1 k1 .byte (2 : Int32) (fun i => .int ((fun _ => (0 : Int32)) i)) := own_arfNew A1 (by decide)
 refine qb st1 ?_
 show qG p e below _ (T1.setTop (mkF m 3 #[vI p0, .unset] [(.ref b1)]))
 refine qb (fun _ k => XS.astoreN X1.here hx rfl (own_e hby d56 2 rfl) rfl rfl (l' := #[vI p0, vR b1]) rfl k) ?_
 show qG p e below _ (T1.setTop (mkF m 4 #[vI p0, vR b1] []))
 refine qb (fun _ k => XS.aloadN X1.here hx rfl (own_e hby d56 3 rfl) rfl rfl k) ?_
 refine qb (fun _ k => XS.iconst X1.here hx rfl (own_e hby d56 4 rfl) k) ?_
 refine qb (fun _ k => XS.iloadN X1.here hx rfl (own_e hby d56 5 rfl) rfl k) ?_
 have F2 := (P_S_UD.ext E1)
 have F3 := (P_S_HI_BYTE_SHIFT.ext E1)
 have F4 := (P_S_LO_BYTE_SHIFT.ext E1)
 obtain ⟨_, T5, Lc5, X5, hQ5, st5⟩ := own_cS X1 hx hZ hown hml (rmputc l Z A0 hw [] k1 (2 : Int32) (fun _ => (0 : Int32)) b1 (0 : Int32) p0 h1 n0 Z1 V1 F2 F3 F4 (show (¬ (0 : Int32) < 0) ∧ (0 : Int32) < (2 : Int32) by decide) ge_b1 (show (¬ (1 : Int32) < 0) ∧ (1 : Int32) < (2 : Int32) by decide)) (hwd 261 rfl) (hwd 262 rfl) (hwd 243 rfl) (hwd 263 rfl) (by decide) pd_261 e1 (g := (mkF m 7 #[vI p0, vR b1] [(.int p0), (.int 0), (.ref b1)])) (rest := []) rfl rfl rfl rfl (own_e hby d56 6 rfl) rfl
 obtain ⟨rfl, Nq5, Kq5, F6⟩ := hQ5
 have N5 := Fr.app N0 Nq5
 have K5 : Keep h0 T5.heap [] := K1.trans Kq5 ((allS (Or.inr sz_b1) all0))
 have Z5 := ql Z1 Kq5.1
 refine qb st5 ?_
 show qG p e below _ (T5.setTop (mkF m 10 #[vI p0, vR b1] []))
 refine qb (fun _ k => XS.aloadN X5.here hx rfl (own_e hby d56 7 rfl) rfl rfl k) ?_
 have F7 := (Ax1.keep Kq5)
 exact own_retR X5 hx hrt (by decide) rfl (own_e hby d56 8 rfl) hlk rfl ⟨_, _, rfl, N5, K5, ge_b1, sz_b1, F7, F6⟩ (by decide) (by decide)
theorem d53 : own_ds jdk_43_method_3_code [(0, .iload_n 0, 1), (1, .sipush 255, 3), (4, .if_icmp .gt 7, 3), (7, .iconst 1, 1), (8, .goto 4, 3), (11, .iconst 0, 1), (12, .ireturn, 1)] = true := by decide +kernel
theorem ef_canL (m : MethodId) (p0 : Int32) : entryFrame m #[(.int p0)] 1 = mkF m 0 #[vI p0] [] := rfl
def QcanL (Z : State) (p0 : Int32) (h0 : Heap) (n0 : Nat) (v : Option Value) (h : Heap) (L : List Loc) : Prop := v = some (.int 1) ∧ Fr n0 L ∧ h = h0
theorem rmcanL (l : Launch) (Z : State) (A0 : Array Value) (hw : ∀ d ∈ tables_1, d.before A0 Z = true) (ws : List Jvm.Cond) (p0 : Int32) (h0 : Heap) (n0 : Nat) (Z0 : n0 ≤ h0.size) (ha4 : ¬ ((255 : Int32) < p0)) :
  qM l Z (⟨"java/lang/StringLatin1", "canEncode", "(C)Z"⟩ : MethodName) jdk_43_method_3_code 1 (some .boolean) ws ({ frames := 0, cells := 0, slots := 0, locals := 0 } : Room) #[(.int p0)] h0 (QcanL Z p0 h0 n0) 0 0 := own_enter (plainFor_of_name pn_l1tb) (fun m => ef_canL m p0) fun p e s m below meth c s₁ hx hby hml hlk hown hnm X0 e0 hZ hrt => by
 have hwd := qw hw
 have N0 := Fr.nil n0
 show qG p e below _ (s₁.setTop (mkF m 0 #[vI p0] []))
 refine qb (fun _ k => XS.iloadN X0.here hx rfl (own_e hby d53 0 rfl) rfl k) ?_
 refine qb (fun _ k => XS.sipush X0.here hx rfl (own_e hby d53 1 rfl) k) ?_
 refine qb (fun _ k => XS.icmpNo X0.here hx rfl (own_e hby d53 2 rfl) rfl (flt ha4).2.2.1 k) ?_
 show qG p e below _ (s₁.setTop (mkF m 7 #[vI p0] []))
 refine qb (fun _ k => XS.iconst X0.here hx rfl (own_e hby d53 3 rfl) k) ?_
 refine qb (fun _ k => XS.goto X0.here hx rfl (pc0 := 8) (pc' := 12) rfl (own_e hby d53 4 rfl) (by decide) (by decide) k) ?_
 show qG p e below _ (s₁.setTop (mkF m 12 #[vI p0] [(.int 1)]))
 exact own_retN X0 hx (t := .boolean) hrt (by simp) (own_e hby d53 6 rfl) hlk e0 ⟨rfl, N0, rfl⟩ (by decide) (by decide)
theorem d55 : own_ds jdk_42_method_151_code [(0, .aload_n 0, 1), (1, .invokespecial 1, 3), (4, .aload_n 0, 1), (5, .aload_n 1, 1), (6, .putfield 9, 3), (9, .aload_n 0, 1), (10, .iload_n 2, 1), (11, .putfield 15, 3), (14, .return_, 1)] = true := by decide +kernel
theorem ef_sbbL (m : MethodId) (a0 a1 : Addr) : entryFrame m #[(.ref a0), (.ref a1), (.int 0)] 3 = mkF m 0 #[vR a0, vR a1, vI 0] [] := rfl
def QsbbL (Z : State) (a0 a1 : Addr) (f_a0_value : Value) (f_a0_coder : Int32) (h0 : Heap) (n0 : Nat) (v : Option Value) (h : Heap) (L : List Loc) : Prop := v = none ∧ Fr n0 L ∧ Keep h0 h [a0] ∧ Exa Z h a0 "java/lang/String" ∧ Fld Z h a0 cS "value" "[B" (.ref a1) ∧ Fld Z h a0 cS "coder" "B" (.int (nar .byte (0 : Int32)))
theorem rmsbbL (l : Launch) (Z : State) (A0 : Array Value) (hw : ∀ d ∈ tables_1, d.before A0 Z = true) (ws : List Jvm.Cond) (a0 a1 : Addr) (f_a0_value : Value) (f_a0_coder : Int32) (h0 : Heap) (n0 : Nat) (Z0 : n0 ≤ h0.size) (P_E_a0 : Exa Z h0 a0 "java/lang/String") (P_F_a0_value : Fld Z h0 a0 cS "value" "[B" f_a0_value) (g_a0 : n0 ≤ a0) (P_F_a0_coder : Fld Z h0 a0 cS "coder" "B" (.int f_a0_coder)) :
  qM l Z (⟨"java/lang/String", "<init>", "([BB)V"⟩ : MethodName) jdk_42_method_151_code 3 none ws ({ frames := 1, cells := 0, slots := 0, locals := 12 } : Room) #[(.ref a0), (.ref a1), (.int 0)] h0 (QsbbL Z a0 a1 f_a0_value f_a0_coder h0 n0) 0 0 := own_enter (plainFor_of_name pn_si4L) (fun m => ef_sbbL m a0 a1) fun p e s m below meth c s₁ hx hby hml hlk hown hnm X0 e0 hZ hrt => by
 have hwd := qw hw
 have N0 := Fr.nil n0
 show qG p e below _ (s₁.setTop (mkF m 0 #[vR a0, vR a1, vI 0] []))
 refine qb (fun _ k => XS.aloadN X0.here hx rfl (own_e hby d55 0 rfl) rfl rfl k) ?_
 obtain ⟨T1, X1, e1, st1⟩ := initO X0 hx hZ hown (hwd 123 rfl) (hwd 29 rfl) (hwd 30 rfl) e0 (g := (mkF m 1 #[vR a0, vR a1, vI 0] [(.ref a0)])) rfl (by rw [hml]; rfl) rfl (own_e hby d55 1 rfl) (by decide) (W := 0) (by show 2 * 0 + _ ≤ _; exact Nat.le_of_eq rfl) (by decide)
 refine qb st1 ?_
 show qG p e below _ (T1.setTop (mkF m 4 #[vR a0, vR a1, vI 0] []))
 refine qb (fun _ k => XS.aloadN X1.here hx rfl (own_e hby d55 2 rfl) rfl rfl k) ?_
 refine qb (fun _ k => XS.aloadN X1.here hx rfl (own_e hby d55 3 rfl) rfl rfl k) ?_
 obtain ⟨T2, h2, X2, e2, W2, st2⟩ := putF X1 hx hZ hown (host := "") (Or.inl (hwd 51 rfl)) Via.refl e1 P_F_a0_value P_E_a0 (Or.inr ⟨(hwd 4 rfl), rfl, hnm⟩) (hwd 2 rfl) (ty := (.array .byte)) (by decide) rfl rfl (g := (mkF m 6 #[vR a0, vR a1, vI 0] [(.ref a1), (.ref a0)])) rfl rfl (own_e hby d55 4 rfl)
 have Fw2 : Fld Z h2 a0 cS "value" "[B" (.ref a1) := P_F_a0_value.same W2
 have K2 : Keep h0 h2 [a0] := (Keep.refl h0 [a0]).wr W2 (Or.inl (List.mem_of_getElem? (i := 0) rfl))
 have Z2 := ql Z0 (Keep.of_wr W2).1
 have N2 := Fr.snoc X2 N0 g_a0
 refine qb st2 ?_
 show qG p e below _ (T2.setTop (mkF m 9 #[vR a0, vR a1, vI 0] []))
 refine qb (fun _ k => XS.aloadN X2.here hx rfl (own_e hby d55 5 rfl) rfl rfl k) ?_
 refine qb (fun _ k => XS.iloadN X2.here hx rfl (own_e hby d55 6 rfl) rfl k) ?_
 have F3 := (P_E_a0.wr W2)
 have F4 := (P_F_a0_coder.other W2 (Or.inr (slot_ne (Or.inr (hwd 5 rfl)) (Or.inr (hwd 4 rfl)) (by decide) (t := .byte) (t' := (.array .byte)) (by decide) (by decide))))
 obtain ⟨T5, h5, X5, e5, W5, st5⟩ := putFN X2 hx hZ hown (hwd 58 rfl) Via.refl e2 F4 F3 (Or.inr ⟨(hwd 5 rfl), rfl, hnm⟩) (hwd 2 rfl) (ty := .byte) (v' := (.int (nar .byte (0 : Int32)))) (by decide) rfl (fits_nar_byte _) (g := (mkF m 11 #[vR a0, vR a1, vI 0] [(.int 0), (.ref a0)])) rfl rfl (own_e hby d55 7 rfl)
 have Fw5 : Fld Z h5 a0 cS "coder" "B" (.int (nar .byte (0 : Int32))) := F4.same W5
 have K5 : Keep h0 h5 [a0] := K2.wr W5 (Or.inl (List.mem_of_getElem? (i := 0) rfl))
 have Z5 := ql Z2 (Keep.of_wr W5).1
 have N5 := Fr.snoc X5 N2 g_a0
 refine qb st5 ?_
 show qG p e below _ (T5.setTop (mkF m 14 #[vR a0, vR a1, vI 0] []))
 have F6 := (F3.wr W5)
 have F7 := (Fw2.other W5 (Or.inr (slot_ne (Or.inr (hwd 4 rfl)) (Or.inr (hwd 5 rfl)) (by decide) (t := (.array .byte)) (t' := .byte) (by decide) (by decide))))
 exact own_ret0 X5 hx hrt (own_e hby d55 8 rfl) hlk e5 ⟨rfl, N5, K5, F6, F7, Fw5⟩ (by decide) (by decide)
theorem pd_303 : parseMethodDescriptor "(C)Z" = some ⟨[.char], some .boolean⟩ := by decide +kernel
theorem pd_306 : parseMethodDescriptor "(C)[B" = some ⟨[.char], some (.array .byte)⟩ := by decide +kernel
theorem pd_309 : parseMethodDescriptor "([BB)V" = some ⟨[(.array .byte), .byte], none⟩ := by decide +kernel
theorem d52 : own_ds jdk_42_method_139_code [(0, .getstatic 38, 3), (3, .ifCond .eq 23, 3), (6, .iload_n 0, 1), (7, .invokestatic 1015, 3), (10, .ifCond .eq 16, 3), (13, .new 10, 3), (16, .dup, 1), (17, .iload_n 0, 1), (18, .invokestatic 1018, 3), (21, .iconst 0, 1), (22, .invokespecial 209, 3), (25, .areturn, 1), (26, .new 10, 3), (29, .dup, 1), (30, .iload_n 0, 1), (31, .invokestatic 1021, 3), (34, .iconst 1, 1), (35, .invokespecial 209, 3), (38, .areturn, 1)] = true := by decide +kernel
theorem ef_voL (m : MethodId) (p0 : Int32) : entryFrame m #[(.int p0)] 1 = mkF m 0 #[vI p0] [] := rfl
def QvoL (Z : State) (f_CS p0 : Int32) (h0 : Heap) (n0 : Nat) (v : Option Value) (h : Heap) (L : List Loc) : Prop := ∃ (b3 b5 : Addr) (b6 : ClassId), v = some (.ref b3) ∧ Fr n0 L ∧ Keep h0 h [] ∧ (n0 ≤ b3) ∧ (h0.size ≤ b3) ∧ Exa Z h b3 "java/lang/String" ∧ Fld Z h b3 cS "value" "[B" (.ref b5) ∧ Fld Z h b3 cS "coder" "B" (.int 0) ∧ (n0 ≤ b5) ∧ (h0.size ≤ b5) ∧ Exa Z h b5 "[B" ∧ qA Z h b5 b6 .byte (1 : Int32) (fun i => .int ((qu (fun _ => (0 : Int32)) 0 (nar .byte (p0.toInt8.toInt32))) i)) ∧ (b3 ≠ b5)
theorem rmvoL (l : Launch) (Z : State) (A0 : Array Value) (hw : ∀ d ∈ tables_1, d.before A0 Z = true) (ws : List Jvm.Cond) (f_CS p0 : Int32) (h0 : Heap) (n0 : Nat) (Z0 : n0 ≤ h0.size) (P_S_CS : Sta Z h0 cS "COMPACT_STRINGS" "Z" (.int f_CS)) (hn_CS : ¬ (f_CS = (0 : Int32))) (hp_1 : ¬ ((255 : Int32) < p0)) :
  qM l Z (⟨"java/lang/String", "valueOf", "(C)Ljava/lang/String;"⟩ : MethodName) jdk_42_method_139_code 1 (some (.object "java/lang/String")) ws ({ frames := 2, cells := 2, slots := 5, locals := 27 } : Room) #[(.int p0)] h0 (QvoL Z f_CS p0 h0 n0) 2 5 := own_enter (plainFor_of_name pn_si4L) (fun m => ef_voL m p0) fun p e s m below meth c s₁ hx hby hml hlk hown hnm X0 e0 hZ hrt => by
 have hwd := qw hw
 have N0 := Fr.nil n0
 show qG p e below _ (s₁.setTop (mkF m 0 #[vI p0] []))
 obtain ⟨T1, X1, e1, st1⟩ := getS2 X0 hx hZ hown (host := "") (Or.inl (hwd 57 rfl)) Via.refl e0 P_S_CS (g := (mkF m 0 #[vI p0] [])) rfl (own_e hby d52 0 rfl)
 refine qb st1 ?_
 refine qb (fun _ k => XS.ifNo X1.here hx rfl (own_e hby d52 1 rfl) rfl ((if0 _ _).trans (feq hn_CS).1) k) ?_
 show qG p e below _ (T1.setTop (mkF m 6 #[vI p0] []))
 refine qb (fun _ k => XS.iloadN X1.here hx rfl (own_e hby d52 2 rfl) rfl k) ?_
 obtain ⟨_, T2, Lc2, X2, hQ2, st2⟩ := own_cS X1 hx hZ hown hml (rmcanL l Z A0 hw [] p0 h0 n0 Z0 hp_1) (hwd 303 rfl) (hwd 304 rfl) (hwd 231 rfl) (hwd 305 rfl) (by decide) pd_303 e1 (g := (mkF m 7 #[vI p0] [(.int p0)])) (rest := []) rfl rfl rfl rfl (own_e hby d52 3 rfl) rfl
 obtain ⟨rfl, Nq2, eq2⟩ := hQ2
 have N2 := Fr.app N0 Nq2
 refine qb st2 ?_
 show qG p e below _ (T2.setTop (mkF m 10 #[vI p0] [(.int 1)]))
 refine qb (fun _ k => XS.ifNo X2.here hx rfl (own_e hby d52 4 rfl) rfl ((if0 _ _).trans (feq (by decide : ¬ ((1 : Int32) = (0 : Int32)))).1) k) ?_
 show qG p e below _ (T2.setTop (mkF m 13 #[vI p0] []))
 obtain ⟨T3, h3, X3, e3, E3, A3, D3, -, st3⟩ := newO X2 hx hZ hown (hwd 228 rfl) (hwd 2 rfl) (hwd 1 rfl) eq2 (g := (mkF m 13 #[vI p0] [])) rfl (own_e hby d52 5 rfl) (by decide) (by decide)
 obtain ⟨b3, g3⟩ : ∃ z, z = h0.size := ⟨_, rfl⟩
 have ge_b3 : n0 ≤ b3 := ql Z0 (Nat.le_of_eq g3.symm)
 have sz_b3 := ql (Keep.refl h0 []).1 (Nat.le_of_eq g3.symm)
 have K3 : Keep h0 h3 [] := (Keep.refl h0 []).ext E3
 have Z3 := ql Z0 E3.1
 rw [← g3] at A3 D3 st3
 have F_value_b3 : Fld Z h3 b3 cS "value" "[B" .null := D3 (Or.inr (hwd 4 rfl)) (ty := (.array .byte)) (by decide)
 have F_coder_b3 : Fld Z h3 b3 cS "coder" "B" (.int 0) := D3 (Or.inr (hwd 5 rfl)) (ty := .byte) (by decide)
 refine qb st3 ?_
 show qG p e below _ (T3.setTop (mkF m 16 #[vI p0] [(.ref b3)]))
 refine qb (fun _ k => XS.dup X3.here hx rfl (own_e hby d52 6 rfl) rfl rfl k) ?_
 refine qb (fun _ k => XS.iloadN X3.here hx rfl (own_e hby d52 7 rfl) rfl k) ?_
 obtain ⟨_, T4, Lc4, X4, hQ4, st4⟩ := own_cS X3 hx hZ hown hml (rml1tb l Z A0 hw [] p0 h3 n0 Z3 ) (hwd 306 rfl) (hwd 307 rfl) (hwd 231 rfl) (hwd 308 rfl) (by decide) pd_306 e3 (g := (mkF m 18 #[vI p0] [(.int p0), (.ref b3), (.ref b3)])) (rest := [(.ref b3), (.ref b3)]) rfl rfl rfl rfl (own_e hby d52 8 rfl) rfl
 obtain ⟨b5, b6, rfl, Nq4, Kq4, hp7, hp8, F9, F10⟩ := hQ4
 have N4 := Fr.app N2 Nq4
 have K4 : Keep h0 T4.heap [] := K3.trans Kq4 (all0)
 have Z4 := ql Z3 Kq4.1
 have sz_b5 := ql K3.1 hp8
 refine qb st4 ?_
 show qG p e below _ (T4.setTop (mkF m 21 #[vI p0] [(.ref b5), (.ref b3), (.ref b3)]))
 refine qb (fun _ k => XS.iconst X4.here hx rfl (own_e hby d52 9 rfl) k) ?_
 have F11 := (A3.keep Kq4)
 have F12 := (F_value_b3.keep Kq4 nin0)
 have F13 := (F_coder_b3.keep Kq4 nin0)
 obtain ⟨_, T14, Lc14, X14, hQ14, st14⟩ := own_cI X4 hx hZ hown hml (rmsbbL l Z A0 hw [] b3 b5 (.null) (0 : Int32) T4.heap n0 Z4 F11 F12 ge_b3 F13) (hwd 309 rfl) (hwd 310 rfl) (hwd 1 rfl) (hwd 311 rfl) (by decide) pd_309 rfl rfl (g := (mkF m 22 #[vI p0] [(.int 0), (.ref b5), (.ref b3), (.ref b3)])) (rest := [(.ref b3)]) rfl rfl rfl rfl (own_e hby d52 10 rfl) rfl
 obtain ⟨rfl, Nq14, Kq14, F15, F16, F17⟩ := hQ14
 have N14 := Fr.app N4 Nq14
 have K14 : Keep h0 T14.heap [] := K4.trans Kq14 ((allS (Or.inr sz_b3) all0))
 have Z14 := ql Z4 Kq14.1
 refine qb st14 ?_
 show qG p e below _ (T14.setTop (mkF m 25 #[vI p0] [(.ref b3)]))
 have F18 := (F9.keep Kq14)
 have F19 := (F10.keep Kq14 (ninS (qm A3.lt hp8) nin0))
 exact own_retR X14 hx hrt (by decide) rfl (own_e hby d52 11 rfl) hlk rfl ⟨_, _, _, rfl, N14, K14, ge_b3, sz_b3, F15, F16, F17, hp7, sz_b5, F18, F19, (qn A3.lt hp8)⟩ (by decide) (by decide)
theorem ef_canU (m : MethodId) (p0 : Int32) : entryFrame m #[(.int p0)] 1 = mkF m 0 #[vI p0] [] := rfl
def QcanU (Z : State) (p0 : Int32) (h0 : Heap) (n0 : Nat) (v : Option Value) (h : Heap) (L : List Loc) : Prop := v = some (.int 0) ∧ Fr n0 L ∧ h = h0
theorem rmcanU (l : Launch) (Z : State) (A0 : Array Value) (hw : ∀ d ∈ tables_1, d.before A0 Z = true) (ws : List Jvm.Cond) (p0 : Int32) (h0 : Heap) (n0 : Nat) (Z0 : n0 ≤ h0.size) (ha4 : (255 : Int32) < p0) :
  qM l Z (⟨"java/lang/StringLatin1", "canEncode", "(C)Z"⟩ : MethodName) jdk_43_method_3_code 1 (some .boolean) ws ({ frames := 0, cells := 0, slots := 0, locals := 0 } : Room) #[(.int p0)] h0 (QcanU Z p0 h0 n0) 0 0 := own_enter (plainFor_of_name pn_l1tb) (fun m => ef_canU m p0) fun p e s m below meth c s₁ hx hby hml hlk hown hnm X0 e0 hZ hrt => by
 have hwd := qw hw
 have N0 := Fr.nil n0
 show qG p e below _ (s₁.setTop (mkF m 0 #[vI p0] []))
 refine qb (fun _ k => XS.iloadN X0.here hx rfl (own_e hby d53 0 rfl) rfl k) ?_
 refine qb (fun _ k => XS.sipush X0.here hx rfl (own_e hby d53 1 rfl) k) ?_
 refine qb (fun _ k => XS.icmpYes X0.here hx rfl (pc0 := 4) (pc' := 11) rfl (own_e hby d53 2 rfl) rfl (tlt ha4).2.2.1 (by decide) (by decide) k) ?_
 show qG p e below _ (s₁.setTop (mkF m 11 #[vI p0] []))
 refine qb (fun _ k => XS.iconst X0.here hx rfl (own_e hby d53 5 rfl) k) ?_
 exact own_retN X0 hx (t := .boolean) hrt (by simp) (own_e hby d53 6 rfl) hlk e0 ⟨rfl, N0, rfl⟩ (by decide) (by decide)
theorem ef_sbbU (m : MethodId) (a0 a1 : Addr) : entryFrame m #[(.ref a0), (.ref a1), (.int 1)] 3 = mkF m 0 #[vR a0, vR a1, vI 1] [] := rfl
def QsbbU (Z : State) (a0 a1 : Addr) (f_a0_value : Value) (f_a0_coder : Int32) (h0 : Heap) (n0 : Nat) (v : Option Value) (h : Heap) (L : List Loc) : Prop := v = none ∧ Fr n0 L ∧ Keep h0 h [a0] ∧ Exa Z h a0 "java/lang/String" ∧ Fld Z h a0 cS "value" "[B" (.ref a1) ∧ Fld Z h a0 cS "coder" "B" (.int (nar .byte (1 : Int32)))
theorem rmsbbU (l : Launch) (Z : State) (A0 : Array Value) (hw : ∀ d ∈ tables_1, d.before A0 Z = true) (ws : List Jvm.Cond) (a0 a1 : Addr) (f_a0_value : Value) (f_a0_coder : Int32) (h0 : Heap) (n0 : Nat) (Z0 : n0 ≤ h0.size) (P_E_a0 : Exa Z h0 a0 "java/lang/String") (P_F_a0_value : Fld Z h0 a0 cS "value" "[B" f_a0_value) (g_a0 : n0 ≤ a0) (P_F_a0_coder : Fld Z h0 a0 cS "coder" "B" (.int f_a0_coder)) :
  qM l Z (⟨"java/lang/String", "<init>", "([BB)V"⟩ : MethodName) jdk_42_method_151_code 3 none ws ({ frames := 1, cells := 0, slots := 0, locals := 12 } : Room) #[(.ref a0), (.ref a1), (.int 1)] h0 (QsbbU Z a0 a1 f_a0_value f_a0_coder h0 n0) 0 0 := own_enter (plainFor_of_name pn_si4L) (fun m => ef_sbbU m a0 a1) fun p e s m below meth c s₁ hx hby hml hlk hown hnm X0 e0 hZ hrt => by
 have hwd := qw hw
 have N0 := Fr.nil n0
 show qG p e below _ (s₁.setTop (mkF m 0 #[vR a0, vR a1, vI 1] []))
 refine qb (fun _ k => XS.aloadN X0.here hx rfl (own_e hby d55 0 rfl) rfl rfl k) ?_
 obtain ⟨T1, X1, e1, st1⟩ := initO X0 hx hZ hown (hwd 123 rfl) (hwd 29 rfl) (hwd 30 rfl) e0 (g := (mkF m 1 #[vR a0, vR a1, vI 1] [(.ref a0)])) rfl (by rw [hml]; rfl) rfl (own_e hby d55 1 rfl) (by decide) (W := 0) (by show 2 * 0 + _ ≤ _; exact Nat.le_of_eq rfl) (by decide)
 refine qb st1 ?_
 show qG p e below _ (T1.setTop (mkF m 4 #[vR a0, vR a1, vI 1] []))
 refine qb (fun _ k => XS.aloadN X1.here hx rfl (own_e hby d55 2 rfl) rfl rfl k) ?_
 refine qb (fun _ k => XS.aloadN X1.here hx rfl (own_e hby d55 3 rfl) rfl rfl k) ?_
 obtain ⟨T2, h2, X2, e2, W2, st2⟩ := putF X1 hx hZ hown (host := "") (Or.inl (hwd 51 rfl)) Via.refl e1 P_F_a0_value P_E_a0 (Or.inr ⟨(hwd 4 rfl), rfl, hnm⟩) (hwd 2 rfl) (ty := (.array .byte)) (by decide) rfl rfl (g := (mkF m 6 #[vR a0, vR a1, vI 1] [(.ref a1), (.ref a0)])) rfl rfl (own_e hby d55 4 rfl)
 have Fw2 : Fld Z h2 a0 cS "value" "[B" (.ref a1) := P_F_a0_value.same W2
 have K2 : Keep h0 h2 [a0] := (Keep.refl h0 [a0]).wr W2 (Or.inl (List.mem_of_getElem? (i := 0) rfl))
 have Z2 := ql Z0 (Keep.of_wr W2).1
 have N2 := Fr.snoc X2 N0 g_a0
 refine qb st2 ?_
 show qG p e below _ (T2.setTop (mkF m 9 #[vR a0, vR a1, vI 1] []))
 refine qb (fun _ k => XS.aloadN X2.here hx rfl (own_e hby d55 5 rfl) rfl rfl k) ?_
 refine qb (fun _ k => XS.iloadN X2.here hx rfl (own_e hby d55 6 rfl) rfl k) ?_
 have F3 := (P_E_a0.wr W2)
 have F4 := (P_F_a0_coder.other W2 (Or.inr (slot_ne (Or.inr (hwd 5 rfl)) (Or.inr (hwd 4 rfl)) (by decide) (t := .byte) (t' := (.array .byte)) (by decide) (by decide))))
 obtain ⟨T5, h5, X5, e5, W5, st5⟩ := putFN X2 hx hZ hown (hwd 58 rfl) Via.refl e2 F4 F3 (Or.inr ⟨(hwd 5 rfl), rfl, hnm⟩) (hwd 2 rfl) (ty := .byte) (v' := (.int (nar .byte (1 : Int32)))) (by decide) rfl (fits_nar_byte _) (g := (mkF m 11 #[vR a0, vR a1, vI 1] [(.int 1), (.ref a0)])) rfl rfl (own_e hby d55 7 rfl)
 have Fw5 : Fld Z h5 a0 cS "coder" "B" (.int (nar .byte (1 : Int32))) := F4.same W5
 have K5 : Keep h0 h5 [a0] := K2.wr W5 (Or.inl (List.mem_of_getElem? (i := 0) rfl))
 have Z5 := ql Z2 (Keep.of_wr W5).1
 have N5 := Fr.snoc X5 N2 g_a0
 refine qb st5 ?_
 show qG p e below _ (T5.setTop (mkF m 14 #[vR a0, vR a1, vI 1] []))
 have F6 := (F3.wr W5)
 have F7 := (Fw2.other W5 (Or.inr (slot_ne (Or.inr (hwd 4 rfl)) (Or.inr (hwd 5 rfl)) (by decide) (t := (.array .byte)) (t' := .byte) (by decide) (by decide))))
 exact own_ret0 X5 hx hrt (own_e hby d55 8 rfl) hlk e5 ⟨rfl, N5, K5, F6, F7, Fw5⟩ (by decide) (by decide)
theorem ef_voU (m : MethodId) (p0 : Int32) : entryFrame m #[(.int p0)] 1 = mkF m 0 #[vI p0] [] := rfl
def QvoU (Z : State) (f_CS p0 : Int32) (h0 : Heap) (n0 : Nat) (v : Option Value) (h : Heap) (L : List Loc) : Prop := ∃ (b3 b8 : Addr) (b9 : ClassId), v = some (.ref b3) ∧ Fr n0 L ∧ Keep h0 h [] ∧ (n0 ≤ b3) ∧ (h0.size ≤ b3) ∧ Exa Z h b3 "java/lang/String" ∧ Fld Z h b3 cS "value" "[B" (.ref b8) ∧ Fld Z h b3 cS "coder" "B" (.int 1) ∧ (n0 ≤ b8) ∧ (h0.size ≤ b8) ∧ Exa Z h b8 "[B" ∧ qA Z h b8 b9 .byte (2 : Int32) (fun i => .int ((qu (qu (fun _ => (0 : Int32)) 0 (nar .byte (p0.toInt8.toInt32))) 1 (nar .byte ((p0 >>> ((8 : Int32) &&& 31)).toInt8.toInt32))) i)) ∧ (b3 ≠ b8)
theorem rmvoU (l : Launch) (Z : State) (A0 : Array Value) (hw : ∀ d ∈ tables_1, d.before A0 Z = true) (ws : List Jvm.Cond) (f_CS p0 : Int32) (h0 : Heap) (n0 : Nat) (Z0 : n0 ≤ h0.size) (P_S_CS : Sta Z h0 cS "COMPACT_STRINGS" "Z" (.int f_CS)) (hn_CS : ¬ (f_CS = (0 : Int32))) (P_S_UD : Sta Z h0 cU "$assertionsDisabled" "Z" (.int 1)) (P_S_HI_BYTE_SHIFT : Sta Z h0 cU "HI_BYTE_SHIFT" "I" (.int 0)) (P_S_LO_BYTE_SHIFT : Sta Z h0 cU "LO_BYTE_SHIFT" "I" (.int 8)) (hp_1 : (255 : Int32) < p0) :
  qM l Z (⟨"java/lang/String", "valueOf", "(C)Ljava/lang/String;"⟩ : MethodName) jdk_42_method_139_code 1 (some (.object "java/lang/String")) ws ({ frames := 2, cells := 2, slots := 6, locals := 29 } : Room) #[(.int p0)] h0 (QvoU Z f_CS p0 h0 n0) 2 6 := own_enter (plainFor_of_name pn_si4L) (fun m => ef_voU m p0) fun p e s m below meth c s₁ hx hby hml hlk hown hnm X0 e0 hZ hrt => by
 have hwd := qw hw
 have N0 := Fr.nil n0
 show qG p e below _ (s₁.setTop (mkF m 0 #[vI p0] []))
 obtain ⟨T1, X1, e1, st1⟩ := getS2 X0 hx hZ hown (host := "") (Or.inl (hwd 57 rfl)) Via.refl e0 P_S_CS (g := (mkF m 0 #[vI p0] [])) rfl (own_e hby d52 0 rfl)
 refine qb st1 ?_
 refine qb (fun _ k => XS.ifNo X1.here hx rfl (own_e hby d52 1 rfl) rfl ((if0 _ _).trans (feq hn_CS).1) k) ?_
 show qG p e below _ (T1.setTop (mkF m 6 #[vI p0] []))
 refine qb (fun _ k => XS.iloadN X1.here hx rfl (own_e hby d52 2 rfl) rfl k) ?_
 obtain ⟨_, T2, Lc2, X2, hQ2, st2⟩ := own_cS X1 hx hZ hown hml (rmcanU l Z A0 hw [] p0 h0 n0 Z0 hp_1) (hwd 303 rfl) (hwd 304 rfl) (hwd 231 rfl) (hwd 305 rfl) (by decide) pd_303 e1 (g := (mkF m 7 #[vI p0] [(.int p0)])) (rest := []) rfl rfl rfl rfl (own_e hby d52 3 rfl) rfl
 obtain ⟨rfl, Nq2, eq2⟩ := hQ2
 have N2 := Fr.app N0 Nq2
 refine qb st2 ?_
 show qG p e below _ (T2.setTop (mkF m 10 #[vI p0] [(.int 0)]))
 refine qb (fun _ k => XS.ifYes X2.here hx rfl (pc0 := 10) (pc' := 26) rfl (own_e hby d52 4 rfl) rfl ((if0 _ _).trans (teq (by decide : (0 : Int32) = (0 : Int32))).1) (by decide) (by decide) k) ?_
 show qG p e below _ (T2.setTop (mkF m 26 #[vI p0] []))
 obtain ⟨T3, h3, X3, e3, E3, A3, D3, -, st3⟩ := newO X2 hx hZ hown (hwd 228 rfl) (hwd 2 rfl) (hwd 1 rfl) eq2 (g := (mkF m 26 #[vI p0] [])) rfl (own_e hby d52 12 rfl) (by decide) (by decide)
 obtain ⟨b3, g3⟩ : ∃ z, z = h0.size := ⟨_, rfl⟩
 have ge_b3 : n0 ≤ b3 := ql Z0 (Nat.le_of_eq g3.symm)
 have sz_b3 := ql (Keep.refl h0 []).1 (Nat.le_of_eq g3.symm)
 have K3 : Keep h0 h3 [] := (Keep.refl h0 []).ext E3
 have Z3 := ql Z0 E3.1
 rw [← g3] at A3 D3 st3
 have F_value_b3 : Fld Z h3 b3 cS "value" "[B" .null := D3 (Or.inr (hwd 4 rfl)) (ty := (.array .byte)) (by decide)
 have F_coder_b3 : Fld Z h3 b3 cS "coder" "B" (.int 0) := D3 (Or.inr (hwd 5 rfl)) (ty := .byte) (by decide)
 refine qb st3 ?_
 show qG p e below _ (T3.setTop (mkF m 29 #[vI p0] [(.ref b3)]))
 refine qb (fun _ k => XS.dup X3.here hx rfl (own_e hby d52 13 rfl) rfl rfl k) ?_
 refine qb (fun _ k => XS.iloadN X3.here hx rfl (own_e hby d52 14 rfl) rfl k) ?_
 have F4 := (P_S_UD.ext E3)
 have F5 := (P_S_HI_BYTE_SHIFT.ext E3)
 have F6 := (P_S_LO_BYTE_SHIFT.ext E3)
 obtain ⟨_, T7, Lc7, X7, hQ7, st7⟩ := own_cS X3 hx hZ hown hml (rmu16tb l Z A0 hw [] p0 h3 n0 Z3 F4 F5 F6) (hwd 312 rfl) (hwd 313 rfl) (hwd 243 rfl) (hwd 314 rfl) (by decide) pd_306 e3 (g := (mkF m 31 #[vI p0] [(.int p0), (.ref b3), (.ref b3)])) (rest := [(.ref b3), (.ref b3)]) rfl rfl rfl rfl (own_e hby d52 15 rfl) rfl
 obtain ⟨b8, b9, rfl, Nq7, Kq7, hp10, hp11, F12, F13⟩ := hQ7
 have N7 := Fr.app N2 Nq7
 have K7 : Keep h0 T7.heap [] := K3.trans Kq7 (all0)
 have Z7 := ql Z3 Kq7.1
 have sz_b8 := ql K3.1 hp11
 refine qb st7 ?_
 show qG p e below _ (T7.setTop (mkF m 34 #[vI p0] [(.ref b8), (.ref b3), (.ref b3)]))
 refine qb (fun _ k => XS.iconst X7.here hx rfl (own_e hby d52 16 rfl) k) ?_
 have F14 := (A3.keep Kq7)
 have F15 := (F_value_b3.keep Kq7 nin0)
 have F16 := (F_coder_b3.keep Kq7 nin0)
 obtain ⟨_, T17, Lc17, X17, hQ17, st17⟩ := own_cI X7 hx hZ hown hml (rmsbbU l Z A0 hw [] b3 b8 (.null) (0 : Int32) T7.heap n0 Z7 F14 F15 ge_b3 F16) (hwd 309 rfl) (hwd 310 rfl) (hwd 1 rfl) (hwd 311 rfl) (by decide) pd_309 rfl rfl (g := (mkF m 35 #[vI p0] [(.int 1), (.ref b8), (.ref b3), (.ref b3)])) (rest := [(.ref b3)]) rfl rfl rfl rfl (own_e hby d52 17 rfl) rfl
 obtain ⟨rfl, Nq17, Kq17, F18, F19, F20⟩ := hQ17
 have N17 := Fr.app N7 Nq17
 have K17 : Keep h0 T17.heap [] := K7.trans Kq17 ((allS (Or.inr sz_b3) all0))
 have Z17 := ql Z7 Kq17.1
 refine qb st17 ?_
 show qG p e below _ (T17.setTop (mkF m 38 #[vI p0] [(.ref b3)]))
 have F21 := (F12.keep Kq17)
 have F22 := (F13.keep Kq17 (ninS (qm A3.lt hp11) nin0))
 exact own_retR X17 hx hrt (by decide) rfl (own_e hby d52 18 rfl) hlk rfl ⟨_, _, _, rfl, N17, K17, ge_b3, sz_b3, F18, F19, F20, hp10, sz_b8, F21, F22, (qn A3.lt hp11)⟩ (by decide) (by decide)
theorem d8 : own_ds jdk_42_method_152_code [(0, .getstatic 38, 3), (3, .ifCond .eq 10, 3), (6, .aload_n 0, 1), (7, .getfield 15, 3), (10, .goto 4, 3), (14, .ireturn, 1)] = true := by decide +kernel
theorem ef_coder0 (m : MethodId) (a0 : Addr) : entryFrame m #[(.ref a0)] 1 = mkF m 0 #[vR a0] [] := rfl
def Qcoder0 (Z : State) (f_CS : Int32) (a0 : Addr) (h0 : Heap) (n0 : Nat) (v : Option Value) (h : Heap) (L : List Loc) : Prop := v = some (.int (nar .byte (0 : Int32))) ∧ Fr n0 L ∧ h = h0
theorem rmcoder0 (l : Launch) (Z : State) (A0 : Array Value) (hw : ∀ d ∈ tables_1, d.before A0 Z = true) (ws : List Jvm.Cond) (f_CS : Int32) (a0 : Addr) (h0 : Heap) (n0 : Nat) (Z0 : n0 ≤ h0.size) (P_E_a0 : Exa Z h0 a0 "java/lang/String") (P_F_a0_coder : Fld Z h0 a0 cS "coder" "B" (.int 0)) (P_S_CS : Sta Z h0 cS "COMPACT_STRINGS" "Z" (.int f_CS)) (hn_CS : ¬ (f_CS = (0 : Int32))) :
  qM l Z (⟨"java/lang/String", "coder", "()B"⟩ : MethodName) jdk_42_method_152_code 1 (some .byte) ws ({ frames := 0, cells := 0, slots := 0, locals := 0 } : Room) #[(.ref a0)] h0 (Qcoder0 Z f_CS a0 h0 n0) 0 0 := own_enter (plainFor_of_name pn_si4L) (fun m => ef_coder0 m a0) fun p e s m below meth c s₁ hx hby hml hlk hown hnm X0 e0 hZ hrt => by
 have hwd := qw hw
 have N0 := Fr.nil n0
 show qG p e below _ (s₁.setTop (mkF m 0 #[vR a0] []))
 obtain ⟨T1, X1, e1, st1⟩ := getS2 X0 hx hZ hown (host := "") (Or.inl (hwd 57 rfl)) Via.refl e0 P_S_CS (g := (mkF m 0 #[vR a0] [])) rfl (own_e hby d8 0 rfl)
 refine qb st1 ?_
 refine qb (fun _ k => XS.ifNo X1.here hx rfl (own_e hby d8 1 rfl) rfl ((if0 _ _).trans (feq hn_CS).1) k) ?_
 show qG p e below _ (T1.setTop (mkF m 6 #[vR a0] []))
 refine qb (fun _ k => XS.aloadN X1.here hx rfl (own_e hby d8 2 rfl) rfl rfl k) ?_
 obtain ⟨T2, X2, e2, st2⟩ := getF X1 hx hZ hown (host := "") (Or.inl (hwd 58 rfl)) Via.refl e1 P_F_a0_coder (g := (mkF m 7 #[vR a0] [(.ref a0)])) rfl rfl (own_e hby d8 3 rfl)
 refine qb st2 ?_
 refine qb (fun _ k => XS.goto X2.here hx rfl (pc0 := 10) (pc' := 14) rfl (own_e hby d8 4 rfl) (by decide) (by decide) k) ?_
 show qG p e below _ (T2.setTop (mkF m 14 #[vR a0] [(.int 0)]))
 exact own_retN X2 hx (t := .byte) hrt (by simp) (own_e hby d8 5 rfl) hlk e2 ⟨rfl, N0, rfl⟩ (by decide) (by decide)
theorem pd_52 : parseMethodDescriptor "()B" = some ⟨[], some .byte⟩ := by decide +kernel
theorem d7 : own_ds jdk_42_method_54_code [(0, .aload_n 0, 1), (1, .getfield 9, 3), (4, .arraylength, 1), (5, .aload_n 0, 1), (6, .invokevirtual 335, 3), (9, .ishr, 1), (10, .ireturn, 1)] = true := by decide +kernel
theorem ef_len0 (m : MethodId) (a0 : Addr) : entryFrame m #[(.ref a0)] 1 = mkF m 0 #[vR a0] [] := rfl
def Qlen0 (Z : State) (t_a0 : Addr) (k_t_a0 : ClassId) (n_t_a0 : Int32) (fn_t_a0 : Nat → Int32) (f_CS : Int32) (a0 : Addr) (h0 : Heap) (n0 : Nat) (v : Option Value) (h : Heap) (L : List Loc) : Prop := v = some (.int n_t_a0) ∧ Fr n0 L ∧ h = h0
theorem rmlen0 (l : Launch) (Z : State) (A0 : Array Value) (hw : ∀ d ∈ tables_1, d.before A0 Z = true) (ws : List Jvm.Cond) (t_a0 : Addr) (k_t_a0 : ClassId) (n_t_a0 : Int32) (fn_t_a0 : Nat → Int32) (f_CS : Int32) (a0 : Addr) (h0 : Heap) (n0 : Nat) (Z0 : n0 ≤ h0.size) (P_E_a0 : Exa Z h0 a0 "java/lang/String") (P_F_a0_coder : Fld Z h0 a0 cS "coder" "B" (.int 0)) (P_F_a0_value : Fld Z h0 a0 cS "value" "[B" (.ref t_a0)) (P_V_t_a0 : qA Z h0 t_a0 k_t_a0 .byte n_t_a0 (fun i => .int (fn_t_a0 i))) (P_S_CS : Sta Z h0 cS "COMPACT_STRINGS" "Z" (.int f_CS)) (hn_CS : ¬ (f_CS = (0 : Int32))) :
  qM l Z (⟨"java/lang/String", "length", "()I"⟩ : MethodName) jdk_42_method_54_code 1 (some .int) ws ({ frames := 1, cells := 0, slots := 0, locals := 13 } : Room) #[(.ref a0)] h0 (Qlen0 Z t_a0 k_t_a0 n_t_a0 fn_t_a0 f_CS a0 h0 n0) 0 0 := own_enter (plainFor_of_name pn_si4L) (fun m => ef_len0 m a0) fun p e s m below meth c s₁ hx hby hml hlk hown hnm X0 e0 hZ hrt => by
 have hwd := qw hw
 have N0 := Fr.nil n0
 show qG p e below _ (s₁.setTop (mkF m 0 #[vR a0] []))
 refine qb (fun _ k => XS.aloadN X0.here hx rfl (own_e hby d7 0 rfl) rfl rfl k) ?_
 obtain ⟨T1, X1, e1, st1⟩ := getF X0 hx hZ hown (host := "") (Or.inl (hwd 51 rfl)) Via.refl e0 P_F_a0_value (g := (mkF m 1 #[vR a0] [(.ref a0)])) rfl rfl (own_e hby d7 1 rfl)
 refine qb st1 ?_
 obtain ⟨cl2, Ar2, qq2, S2, M2, H2, G2⟩ := id P_V_t_a0
 refine qb (fun t k => X1.arraylength hx (by rw [e1]; exact Ar2.1) (State.isArrayOf_alike hZ.alike Ar2.2.1) (g := (mkF m 4 #[vR a0] [(.ref t_a0)])) rfl rfl (own_e hby d7 2 rfl) _ k) ?_
 rw [len_of S2 M2]
 show qG p e below _ (T1.setTop (mkF m 5 #[vR a0] [(.int n_t_a0)]))
 refine qb (fun _ k => XS.aloadN X1.here hx rfl (own_e hby d7 3 rfl) rfl rfl k) ?_
 obtain ⟨_, T3, Lc3, X3, hQ3, st3⟩ := own_cV X1 hx hZ hown hml (rmcoder0 l Z A0 hw [] f_CS a0 h0 n0 Z0 P_E_a0 P_F_a0_coder P_S_CS hn_CS) (hwd 52 rfl) (hwd 54 rfl) (hwd 1 rfl) (hwd 56 rfl) (by decide) pd_52 e1 (hwd 53 rfl) (hwd 55 rfl) P_E_a0 (g := (mkF m 6 #[vR a0] [(.ref a0), (.int n_t_a0)])) (rest := [(.int n_t_a0)]) rfl rfl rfl rfl (own_e hby d7 4 rfl) rfl
 obtain ⟨rfl, Nq3, eq3⟩ := hQ3
 have N3 := Fr.app N0 Nq3
 refine qb st3 ?_
 show qG p e below _ (T3.setTop (mkF m 9 #[vR a0] [(.int 0), (.int n_t_a0)]))
 refine qb (fun _ k => XS.ishr X3.here hx rfl (own_e hby d7 5 rfl) rfl k) ?_
 show qG p e below _ (T3.setTop (mkF m 10 #[vR a0] [(.int (n_t_a0 >>> ((0 : Int32) &&& 31)))]))
 rw [own_ishr0]
 show qG p e below _ (T3.setTop (mkF m 10 #[vR a0] [(.int n_t_a0)]))
 exact own_retI X3 hx hrt (own_e hby d7 6 rfl) hlk eq3 ⟨rfl, N3, rfl⟩ (by decide) (by decide)
theorem d24 : own_ds jdk_68_method_68_code [(0, .getstatic 18, 3), (3, .ifCond .eq 14, 3), (6, .aload_n 0, 1), (7, .getfield 22, 3), (10, .ifCond .ne 7, 3), (13, .iconst 1, 1), (14, .goto 4, 3), (17, .iconst 0, 1), (18, .ireturn, 1)] = true := by decide +kernel
theorem pn_isl0 : plainName "java/lang/AbstractStringBuilder" = true := by first | (simp [plainName, overriddenIn]; done) | decide +kernel
theorem ef_isl0 (m : MethodId) (a0 : Addr) : entryFrame m #[(.ref a0)] 1 = mkF m 0 #[vR a0] [] := rfl
def Qisl0 (Z : State) (f_CS : Int32) (a0 : Addr) (h0 : Heap) (n0 : Nat) (v : Option Value) (h : Heap) (L : List Loc) : Prop := v = some (.int 1) ∧ Fr n0 L ∧ h = h0
theorem rmisl0 (l : Launch) (Z : State) (A0 : Array Value) (hw : ∀ d ∈ tables_1, d.before A0 Z = true) (ws : List Jvm.Cond) (f_CS : Int32) (a0 : Addr) (h0 : Heap) (n0 : Nat) (Z0 : n0 ≤ h0.size) (P_E_a0 : Exa Z h0 a0 "java/lang/StringBuilder") (P_F_a0_coder : Fld Z h0 a0 cA "coder" "B" (.int 0)) (P_S_CS : Sta Z h0 cS "COMPACT_STRINGS" "Z" (.int f_CS)) (hn_CS : ¬ (f_CS = (0 : Int32))) :
  qM l Z (⟨"java/lang/AbstractStringBuilder", "isLatin1", "()Z"⟩ : MethodName) jdk_68_method_68_code 1 (some .boolean) ws ({ frames := 0, cells := 0, slots := 0, locals := 0 } : Room) #[(.ref a0)] h0 (Qisl0 Z f_CS a0 h0 n0) 0 0 := own_enter (plainFor_of_name pn_isl0) (fun m => ef_isl0 m a0) fun p e s m below meth c s₁ hx hby hml hlk hown hnm X0 e0 hZ hrt => by
 have hwd := qw hw
 have N0 := Fr.nil n0
 show qG p e below _ (s₁.setTop (mkF m 0 #[vR a0] []))
 obtain ⟨T1, X1, e1, st1⟩ := getS2 X0 hx hZ hown (host := "") (Or.inl (hwd 31 rfl)) Via.refl e0 P_S_CS (g := (mkF m 0 #[vR a0] [])) rfl (own_e hby d24 0 rfl)
 refine qb st1 ?_
 refine qb (fun _ k => XS.ifNo X1.here hx rfl (own_e hby d24 1 rfl) rfl ((if0 _ _).trans (feq hn_CS).1) k) ?_
 show qG p e below _ (T1.setTop (mkF m 6 #[vR a0] []))
 refine qb (fun _ k => XS.aloadN X1.here hx rfl (own_e hby d24 2 rfl) rfl rfl k) ?_
 obtain ⟨T2, X2, e2, st2⟩ := getF X1 hx hZ hown (host := "") (Or.inl (hwd 34 rfl)) Via.refl e1 P_F_a0_coder (g := (mkF m 7 #[vR a0] [(.ref a0)])) rfl rfl (own_e hby d24 3 rfl)
 refine qb st2 ?_
 refine qb (fun _ k => XS.ifNo X2.here hx rfl (own_e hby d24 4 rfl) rfl ((if0 _ _).trans (teq (by decide : (0 : Int32) = (0 : Int32))).2) k) ?_
 show qG p e below _ (T2.setTop (mkF m 13 #[vR a0] []))
 refine qb (fun _ k => XS.iconst X2.here hx rfl (own_e hby d24 5 rfl) k) ?_
 refine qb (fun _ k => XS.goto X2.here hx rfl (pc0 := 14) (pc' := 18) rfl (own_e hby d24 6 rfl) (by decide) (by decide) k) ?_
 show qG p e below _ (T2.setTop (mkF m 18 #[vR a0] [(.int 1)]))
 exact own_retN X2 hx (t := .boolean) hrt (by simp) (own_e hby d24 8 rfl) hlk e2 ⟨rfl, N0, rfl⟩ (by decide) (by decide)
theorem ef_coder1 (m : MethodId) (a0 : Addr) : entryFrame m #[(.ref a0)] 1 = mkF m 0 #[vR a0] [] := rfl
def Qcoder1 (Z : State) (f_CS : Int32) (a0 : Addr) (h0 : Heap) (n0 : Nat) (v : Option Value) (h : Heap) (L : List Loc) : Prop := v = some (.int (nar .byte (1 : Int32))) ∧ Fr n0 L ∧ h = h0
theorem rmcoder1 (l : Launch) (Z : State) (A0 : Array Value) (hw : ∀ d ∈ tables_1, d.before A0 Z = true) (ws : List Jvm.Cond) (f_CS : Int32) (a0 : Addr) (h0 : Heap) (n0 : Nat) (Z0 : n0 ≤ h0.size) (P_E_a0 : Exa Z h0 a0 "java/lang/String") (P_F_a0_coder : Fld Z h0 a0 cS "coder" "B" (.int 1)) (P_S_CS : Sta Z h0 cS "COMPACT_STRINGS" "Z" (.int f_CS)) (hn_CS : ¬ (f_CS = (0 : Int32))) :
  qM l Z (⟨"java/lang/String", "coder", "()B"⟩ : MethodName) jdk_42_method_152_code 1 (some .byte) ws ({ frames := 0, cells := 0, slots := 0, locals := 0 } : Room) #[(.ref a0)] h0 (Qcoder1 Z f_CS a0 h0 n0) 0 0 := own_enter (plainFor_of_name pn_si4L) (fun m => ef_coder1 m a0) fun p e s m below meth c s₁ hx hby hml hlk hown hnm X0 e0 hZ hrt => by
 have hwd := qw hw
 have N0 := Fr.nil n0
 show qG p e below _ (s₁.setTop (mkF m 0 #[vR a0] []))
 obtain ⟨T1, X1, e1, st1⟩ := getS2 X0 hx hZ hown (host := "") (Or.inl (hwd 57 rfl)) Via.refl e0 P_S_CS (g := (mkF m 0 #[vR a0] [])) rfl (own_e hby d8 0 rfl)
 refine qb st1 ?_
 refine qb (fun _ k => XS.ifNo X1.here hx rfl (own_e hby d8 1 rfl) rfl ((if0 _ _).trans (feq hn_CS).1) k) ?_
 show qG p e below _ (T1.setTop (mkF m 6 #[vR a0] []))
 refine qb (fun _ k => XS.aloadN X1.here hx rfl (own_e hby d8 2 rfl) rfl rfl k) ?_
 obtain ⟨T2, X2, e2, st2⟩ := getF X1 hx hZ hown (host := "") (Or.inl (hwd 58 rfl)) Via.refl e1 P_F_a0_coder (g := (mkF m 7 #[vR a0] [(.ref a0)])) rfl rfl (own_e hby d8 3 rfl)
 refine qb st2 ?_
 refine qb (fun _ k => XS.goto X2.here hx rfl (pc0 := 10) (pc' := 14) rfl (own_e hby d8 4 rfl) (by decide) (by decide) k) ?_
 show qG p e below _ (T2.setTop (mkF m 14 #[vR a0] [(.int 1)]))
 exact own_retN X2 hx (t := .byte) hrt (by simp) (own_e hby d8 5 rfl) hlk e2 ⟨rfl, N0, rfl⟩ (by decide) (by decide)
theorem ef_len1 (m : MethodId) (a0 : Addr) : entryFrame m #[(.ref a0)] 1 = mkF m 0 #[vR a0] [] := rfl
def Qlen1 (Z : State) (t_a0 : Addr) (k_t_a0 : ClassId) (n_t_a0 : Int32) (fn_t_a0 : Nat → Int32) (f_CS : Int32) (a0 : Addr) (h0 : Heap) (n0 : Nat) (v : Option Value) (h : Heap) (L : List Loc) : Prop := v = some (.int (n_t_a0 >>> ((1 : Int32) &&& 31))) ∧ Fr n0 L ∧ h = h0
theorem rmlen1 (l : Launch) (Z : State) (A0 : Array Value) (hw : ∀ d ∈ tables_1, d.before A0 Z = true) (ws : List Jvm.Cond) (t_a0 : Addr) (k_t_a0 : ClassId) (n_t_a0 : Int32) (fn_t_a0 : Nat → Int32) (f_CS : Int32) (a0 : Addr) (h0 : Heap) (n0 : Nat) (Z0 : n0 ≤ h0.size) (P_E_a0 : Exa Z h0 a0 "java/lang/String") (P_F_a0_coder : Fld Z h0 a0 cS "coder" "B" (.int 1)) (P_F_a0_value : Fld Z h0 a0 cS "value" "[B" (.ref t_a0)) (P_V_t_a0 : qA Z h0 t_a0 k_t_a0 .byte n_t_a0 (fun i => .int (fn_t_a0 i))) (P_S_CS : Sta Z h0 cS "COMPACT_STRINGS" "Z" (.int f_CS)) (hn_CS : ¬ (f_CS = (0 : Int32))) :
  qM l Z (⟨"java/lang/String", "length", "()I"⟩ : MethodName) jdk_42_method_54_code 1 (some .int) ws ({ frames := 1, cells := 0, slots := 0, locals := 13 } : Room) #[(.ref a0)] h0 (Qlen1 Z t_a0 k_t_a0 n_t_a0 fn_t_a0 f_CS a0 h0 n0) 0 0 := own_enter (plainFor_of_name pn_si4L) (fun m => ef_len1 m a0) fun p e s m below meth c s₁ hx hby hml hlk hown hnm X0 e0 hZ hrt => by
 have hwd := qw hw
 have N0 := Fr.nil n0
 show qG p e below _ (s₁.setTop (mkF m 0 #[vR a0] []))
 refine qb (fun _ k => XS.aloadN X0.here hx rfl (own_e hby d7 0 rfl) rfl rfl k) ?_
 obtain ⟨T1, X1, e1, st1⟩ := getF X0 hx hZ hown (host := "") (Or.inl (hwd 51 rfl)) Via.refl e0 P_F_a0_value (g := (mkF m 1 #[vR a0] [(.ref a0)])) rfl rfl (own_e hby d7 1 rfl)
 refine qb st1 ?_
 obtain ⟨cl2, Ar2, qq2, S2, M2, H2, G2⟩ := id P_V_t_a0
 refine qb (fun t k => X1.arraylength hx (by rw [e1]; exact Ar2.1) (State.isArrayOf_alike hZ.alike Ar2.2.1) (g := (mkF m 4 #[vR a0] [(.ref t_a0)])) rfl rfl (own_e hby d7 2 rfl) _ k) ?_
 rw [len_of S2 M2]
 show qG p e below _ (T1.setTop (mkF m 5 #[vR a0] [(.int n_t_a0)]))
 refine qb (fun _ k => XS.aloadN X1.here hx rfl (own_e hby d7 3 rfl) rfl rfl k) ?_
 obtain ⟨_, T3, Lc3, X3, hQ3, st3⟩ := own_cV X1 hx hZ hown hml (rmcoder1 l Z A0 hw [] f_CS a0 h0 n0 Z0 P_E_a0 P_F_a0_coder P_S_CS hn_CS) (hwd 52 rfl) (hwd 54 rfl) (hwd 1 rfl) (hwd 56 rfl) (by decide) pd_52 e1 (hwd 53 rfl) (hwd 55 rfl) P_E_a0 (g := (mkF m 6 #[vR a0] [(.ref a0), (.int n_t_a0)])) (rest := [(.int n_t_a0)]) rfl rfl rfl rfl (own_e hby d7 4 rfl) rfl
 obtain ⟨rfl, Nq3, eq3⟩ := hQ3
 have N3 := Fr.app N0 Nq3
 refine qb st3 ?_
 show qG p e below _ (T3.setTop (mkF m 9 #[vR a0] [(.int 1), (.int n_t_a0)]))
 refine qb (fun _ k => XS.ishr X3.here hx rfl (own_e hby d7 5 rfl) rfl k) ?_
 exact own_retI X3 hx hrt (own_e hby d7 6 rfl) hlk eq3 ⟨rfl, N3, rfl⟩ (by decide) (by decide)
theorem ef_isl1 (m : MethodId) (a0 : Addr) : entryFrame m #[(.ref a0)] 1 = mkF m 0 #[vR a0] [] := rfl
def Qisl1 (Z : State) (f_CS : Int32) (a0 : Addr) (h0 : Heap) (n0 : Nat) (v : Option Value) (h : Heap) (L : List Loc) : Prop := v = some (.int 0) ∧ Fr n0 L ∧ h = h0
theorem rmisl1 (l : Launch) (Z : State) (A0 : Array Value) (hw : ∀ d ∈ tables_1, d.before A0 Z = true) (ws : List Jvm.Cond) (f_CS : Int32) (a0 : Addr) (h0 : Heap) (n0 : Nat) (Z0 : n0 ≤ h0.size) (P_E_a0 : Exa Z h0 a0 "java/lang/StringBuilder") (P_F_a0_coder : Fld Z h0 a0 cA "coder" "B" (.int 1)) (P_S_CS : Sta Z h0 cS "COMPACT_STRINGS" "Z" (.int f_CS)) (hn_CS : ¬ (f_CS = (0 : Int32))) :
  qM l Z (⟨"java/lang/AbstractStringBuilder", "isLatin1", "()Z"⟩ : MethodName) jdk_68_method_68_code 1 (some .boolean) ws ({ frames := 0, cells := 0, slots := 0, locals := 0 } : Room) #[(.ref a0)] h0 (Qisl1 Z f_CS a0 h0 n0) 0 0 := own_enter (plainFor_of_name pn_isl0) (fun m => ef_isl1 m a0) fun p e s m below meth c s₁ hx hby hml hlk hown hnm X0 e0 hZ hrt => by
 have hwd := qw hw
 have N0 := Fr.nil n0
 show qG p e below _ (s₁.setTop (mkF m 0 #[vR a0] []))
 obtain ⟨T1, X1, e1, st1⟩ := getS2 X0 hx hZ hown (host := "") (Or.inl (hwd 31 rfl)) Via.refl e0 P_S_CS (g := (mkF m 0 #[vR a0] [])) rfl (own_e hby d24 0 rfl)
 refine qb st1 ?_
 refine qb (fun _ k => XS.ifNo X1.here hx rfl (own_e hby d24 1 rfl) rfl ((if0 _ _).trans (feq hn_CS).1) k) ?_
 show qG p e below _ (T1.setTop (mkF m 6 #[vR a0] []))
 refine qb (fun _ k => XS.aloadN X1.here hx rfl (own_e hby d24 2 rfl) rfl rfl k) ?_
 obtain ⟨T2, X2, e2, st2⟩ := getF X1 hx hZ hown (host := "") (Or.inl (hwd 34 rfl)) Via.refl e1 P_F_a0_coder (g := (mkF m 7 #[vR a0] [(.ref a0)])) rfl rfl (own_e hby d24 3 rfl)
 refine qb st2 ?_
 refine qb (fun _ k => XS.ifYes X2.here hx rfl (pc0 := 10) (pc' := 17) rfl (own_e hby d24 4 rfl) rfl ((if0 _ _).trans (feq (by decide : ¬ ((1 : Int32) = (0 : Int32)))).2) (by decide) (by decide) k) ?_
 show qG p e below _ (T2.setTop (mkF m 17 #[vR a0] []))
 refine qb (fun _ k => XS.iconst X2.here hx rfl (own_e hby d24 7 rfl) k) ?_
 exact own_retN X2 hx (t := .boolean) hrt (by simp) (own_e hby d24 8 rfl) hlk e2 ⟨rfl, N0, rfl⟩ (by decide) (by decide)
theorem d49 : own_ds jdk_52_method_6_code [(0, .aload_n 0, 1), (1, .arraylength, 1), (2, .iconst 1, 1), (3, .ishr, 1), (4, .ireturn, 1)] = true := by decide +kernel
theorem ef_ul (m : MethodId) (a0 : Addr) : entryFrame m #[(.ref a0)] 1 = mkF m 0 #[vR a0] [] := rfl
def Qul (Z : State) (k_a0 : ClassId) (n_a0 : Int32) (fn_a0 : Nat → Int32) (a0 : Addr) (h0 : Heap) (n0 : Nat) (v : Option Value) (h : Heap) (L : List Loc) : Prop := v = some (.int (n_a0 >>> ((1 : Int32) &&& 31))) ∧ Fr n0 L ∧ h = h0
theorem rmul (l : Launch) (Z : State) (A0 : Array Value) (hw : ∀ d ∈ tables_1, d.before A0 Z = true) (ws : List Jvm.Cond) (k_a0 : ClassId) (n_a0 : Int32) (fn_a0 : Nat → Int32) (a0 : Addr) (h0 : Heap) (n0 : Nat) (Z0 : n0 ≤ h0.size) (P_V_a0 : qA Z h0 a0 k_a0 .byte n_a0 (fun i => .int (fn_a0 i))) :
  qM l Z (⟨"java/lang/StringUTF16", "length", "([B)I"⟩ : MethodName) jdk_52_method_6_code 1 (some .int) ws ({ frames := 0, cells := 0, slots := 0, locals := 0 } : Room) #[(.ref a0)] h0 (Qul Z k_a0 n_a0 fn_a0 a0 h0 n0) 0 0 := own_enter (plainFor_of_name pn_putc) (fun m => ef_ul m a0) fun p e s m below meth c s₁ hx hby hml hlk hown hnm X0 e0 hZ hrt => by
 have hwd := qw hw
 have N0 := Fr.nil n0
 show qG p e below _ (s₁.setTop (mkF m 0 #[vR a0] []))
 refine qb (fun _ k => XS.aloadN X0.here hx rfl (own_e hby d49 0 rfl) rfl rfl k) ?_
 obtain ⟨cl1, Ar1, qq1, S1, M1, H1, G1⟩ := id P_V_a0
 refine qb (fun t k => X0.arraylength hx (by rw [e0]; exact Ar1.1) (State.isArrayOf_alike hZ.alike Ar1.2.1) (g := (mkF m 1 #[vR a0] [(.ref a0)])) rfl rfl (own_e hby d49 1 rfl) _ k) ?_
 rw [len_of S1 M1]
 show qG p e below _ (s₁.setTop (mkF m 2 #[vR a0] [(.int n_a0)]))
 refine qb (fun _ k => XS.iconst X0.here hx rfl (own_e hby d49 2 rfl) k) ?_
 refine qb (fun _ k => XS.ishr X0.here hx rfl (own_e hby d49 3 rfl) rfl k) ?_
 exact own_retI X0 hx hrt (own_e hby d49 4 rfl) hlk e0 ⟨rfl, N0, rfl⟩ (by decide) (by decide)
theorem d51 : own_ds jdk_41_method_13_code [(0, .iload_n 2, 1), (1, .iload_n 0, 1), (2, .ior, 1), (3, .iload_n 1, 1), (4, .ior, 1), (5, .ifCond .lt 10, 3), (8, .iload_n 1, 1), (9, .iload_n 2, 1), (10, .iload_n 0, 1), (11, .isub, 1), (12, .if_icmp .le 11, 3), (23, .iload_n 0, 1), (24, .ireturn, 1)] = true := by decide +kernel
theorem pn_cfs : plainName "jdk/internal/util/Preconditions" = true := by first | (simp [plainName, overriddenIn]; done) | decide +kernel
theorem ef_cfs (m : MethodId) (p0 p1 p2 : Int32) (r3 : Value) (hr_r3 : r3.isRef = true) : entryFrame m #[(.int p0), (.int p1), (.int p2), r3] 4 = mkF m 0 #[vI p0, vI p1, vI p2, .val r3] [] := by
  rcases ref_cases hr_r3 with rfl | ⟨_, rfl⟩ <;> first | (simp [entryFrame, mkF, argsToLocals, Value.category]; done) | rfl
def Qcfs (Z : State) (p0 p1 p2 : Int32) (r3 : Value) (h0 : Heap) (n0 : Nat) (v : Option Value) (h : Heap) (L : List Loc) : Prop := v = some (.int p0) ∧ Fr n0 L ∧ h = h0
theorem rmcfs (l : Launch) (Z : State) (A0 : Array Value) (hw : ∀ d ∈ tables_1, d.before A0 Z = true) (ws : List Jvm.Cond) (p0 p1 p2 : Int32) (r3 : Value) (h0 : Heap) (n0 : Nat) (Z0 : n0 ≤ h0.size) (hr_r3 : r3.isRef = true) (hc5 : ¬ (((p2 ||| p0) ||| p1) < (0 : Int32))) (hc12 : ¬ ((p2 - p0) < p1)) :
  qM l Z (⟨"jdk/internal/util/Preconditions", "checkFromIndexSize", "(IIILjava/util/function/BiFunction;)I"⟩ : MethodName) jdk_41_method_13_code 4 (some .int) ws ({ frames := 0, cells := 0, slots := 0, locals := 0 } : Room) #[(.int p0), (.int p1), (.int p2), r3] h0 (Qcfs Z p0 p1 p2 r3 h0 n0) 0 0 := own_enter (plainFor_of_name pn_cfs) (fun m => ef_cfs m p0 p1 p2 r3 hr_r3) fun p e s m below meth c s₁ hx hby hml hlk hown hnm X0 e0 hZ hrt => by
 have hwd := qw hw
 have N0 := Fr.nil n0
 show qG p e below _ (s₁.setTop (mkF m 0 #[vI p0, vI p1, vI p2, .val r3] []))
 refine qb (fun _ k => XS.iloadN X0.here hx rfl (own_e hby d51 0 rfl) rfl k) ?_
 refine qb (fun _ k => XS.iloadN X0.here hx rfl (own_e hby d51 1 rfl) rfl k) ?_
 refine qb (fun _ k => XS.ior X0.here hx rfl (own_e hby d51 2 rfl) rfl k) ?_
 refine qb (fun _ k => XS.iloadN X0.here hx rfl (own_e hby d51 3 rfl) rfl k) ?_
 refine qb (fun _ k => XS.ior X0.here hx rfl (own_e hby d51 4 rfl) rfl k) ?_
 refine qb (fun _ k => XS.ifNo X0.here hx rfl (own_e hby d51 5 rfl) rfl ((if0 _ _).trans (flt hc5).1) k) ?_
 show qG p e below _ (s₁.setTop (mkF m 8 #[vI p0, vI p1, vI p2, .val r3] []))
 refine qb (fun _ k => XS.iloadN X0.here hx rfl (own_e hby d51 6 rfl) rfl k) ?_
 refine qb (fun _ k => XS.iloadN X0.here hx rfl (own_e hby d51 7 rfl) rfl k) ?_
 refine qb (fun _ k => XS.iloadN X0.here hx rfl (own_e hby d51 8 rfl) rfl k) ?_
 refine qb (fun _ k => XS.isub X0.here hx rfl (own_e hby d51 9 rfl) rfl k) ?_
 refine qb (fun _ k => XS.icmpYes X0.here hx rfl (pc0 := 12) (pc' := 23) rfl (own_e hby d51 10 rfl) rfl (flt hc12).2.2.2 (by decide) (by decide) k) ?_
 show qG p e below _ (s₁.setTop (mkF m 23 #[vI p0, vI p1, vI p2, .val r3] []))
 refine qb (fun _ k => XS.iloadN X0.here hx rfl (own_e hby d51 11 rfl) rfl k) ?_
 exact own_retI X0 hx hrt (own_e hby d51 12 rfl) hlk e0 ⟨rfl, N0, rfl⟩ (by decide) (by decide)
theorem pd_294 : parseMethodDescriptor "(IIILjava/util/function/BiFunction;)I" = some ⟨[.int, .int, .int, (.object "java/util/function/BiFunction")], some .int⟩ := by decide +kernel
theorem d50 : own_ds jdk_42_method_157_code [(0, .iload_n 0, 1), (1, .iload_n 1, 1), (2, .iload_n 2, 1), (3, .getstatic 1053, 3), (6, .invokestatic 1065, 3), (9, .ireturn, 1)] = true := by decide +kernel
theorem ef_sbo (m : MethodId) (p0 p1 p2 : Int32) : entryFrame m #[(.int p0), (.int p1), (.int p2)] 3 = mkF m 0 #[vI p0, vI p1, vI p2] [] := rfl
def Qsbo (Z : State) (f_SF : Value) (p0 p1 p2 : Int32) (h0 : Heap) (n0 : Nat) (v : Option Value) (h : Heap) (L : List Loc) : Prop := v = some (.int p0) ∧ Fr n0 L ∧ h = h0
theorem rmsbo (l : Launch) (Z : State) (A0 : Array Value) (hw : ∀ d ∈ tables_1, d.before A0 Z = true) (ws : List Jvm.Cond) (f_SF : Value) (p0 p1 p2 : Int32) (h0 : Heap) (n0 : Nat) (Z0 : n0 ≤ h0.size) (P_S_SF : Sta Z h0 "jdk/internal/util/Preconditions" "SIOOBE_FORMATTER" "Ljava/util/function/BiFunction;" f_SF) (hr_f_SF : f_SF.isRef = true) (hp_1 : ¬ (((p2 ||| p0) ||| p1) < (0 : Int32))) (hp_2 : ¬ ((p2 - p0) < p1)) :
  qM l Z (⟨"java/lang/String", "checkBoundsOffCount", "(III)I"⟩ : MethodName) jdk_42_method_157_code 3 (some .int) ws ({ frames := 1, cells := 0, slots := 0, locals := 15 } : Room) #[(.int p0), (.int p1), (.int p2)] h0 (Qsbo Z f_SF p0 p1 p2 h0 n0) 0 0 := own_enter (plainFor_of_name pn_si4L) (fun m => ef_sbo m p0 p1 p2) fun p e s m below meth c s₁ hx hby hml hlk hown hnm X0 e0 hZ hrt => by
 have hwd := qw hw
 have N0 := Fr.nil n0
 show qG p e below _ (s₁.setTop (mkF m 0 #[vI p0, vI p1, vI p2] []))
 refine qb (fun _ k => XS.iloadN X0.here hx rfl (own_e hby d50 0 rfl) rfl k) ?_
 refine qb (fun _ k => XS.iloadN X0.here hx rfl (own_e hby d50 1 rfl) rfl k) ?_
 refine qb (fun _ k => XS.iloadN X0.here hx rfl (own_e hby d50 2 rfl) rfl k) ?_
 obtain ⟨T1, X1, e1, st1⟩ := getS2 X0 hx hZ hown (host := "") (Or.inl (hwd 292 rfl)) Via.refl e0 P_S_SF (g := (mkF m 3 #[vI p0, vI p1, vI p2] [(.int p2), (.int p1), (.int p0)])) rfl (own_e hby d50 3 rfl)
 refine qb st1 ?_
 obtain ⟨_, T2, Lc2, X2, hQ2, st2⟩ := own_cS X1 hx hZ hown hml (rmcfs l Z A0 hw [] p0 p1 p2 f_SF h0 n0 Z0 hr_f_SF hp_1 hp_2) (hwd 294 rfl) (hwd 295 rfl) (hwd 293 rfl) (hwd 296 rfl) (by decide) pd_294 e1 (g := (mkF m 6 #[vI p0, vI p1, vI p2] [f_SF, (.int p2), (.int p1), (.int p0)])) (rest := []) rfl rfl rfl rfl (own_e hby d50 4 rfl) rfl
 obtain ⟨rfl, Nq2, eq2⟩ := hQ2
 have N2 := Fr.app N0 Nq2
 refine qb st2 ?_
 show qG p e below _ (T2.setTop (mkF m 9 #[vI p0, vI p1, vI p2] [(.int p0)]))
 exact own_retI X2 hx hrt (own_e hby d50 5 rfl) hlk eq2 ⟨rfl, N2, rfl⟩ (by decide) (by decide)
theorem pd_286 : parseMethodDescriptor "([B)I" = some ⟨[(.array .byte)], some .int⟩ := by decide +kernel
theorem pd_92 : parseMethodDescriptor "(III)I" = some ⟨[.int, .int, .int], some .int⟩ := by decide +kernel
theorem d48 : own_ds jdk_52_method_94_code [(0, .iload_n 0, 1), (1, .iload_n 1, 1), (2, .aload_n 2, 1), (3, .invokestatic 48, 3), (6, .invokestatic 419, 3), (9, .pop, 1), (10, .return_, 1)] = true := by decide +kernel
theorem ef_cbo (m : MethodId) (p0 p1 : Int32) (a2 : Addr) : entryFrame m #[(.int p0), (.int p1), (.ref a2)] 3 = mkF m 0 #[vI p0, vI p1, vR a2] [] := rfl
def Qcbo (Z : State) (k_a2 : ClassId) (n_a2 : Int32) (fn_a2 : Nat → Int32) (f_SF : Value) (p0 p1 : Int32) (a2 : Addr) (h0 : Heap) (n0 : Nat) (v : Option Value) (h : Heap) (L : List Loc) : Prop := v = none ∧ Fr n0 L ∧ h = h0
theorem rmcbo (l : Launch) (Z : State) (A0 : Array Value) (hw : ∀ d ∈ tables_1, d.before A0 Z = true) (ws : List Jvm.Cond) (k_a2 : ClassId) (n_a2 : Int32) (fn_a2 : Nat → Int32) (f_SF : Value) (p0 p1 : Int32) (a2 : Addr) (h0 : Heap) (n0 : Nat) (Z0 : n0 ≤ h0.size) (P_V_a2 : qA Z h0 a2 k_a2 .byte n_a2 (fun i => .int (fn_a2 i))) (P_S_SF : Sta Z h0 "jdk/internal/util/Preconditions" "SIOOBE_FORMATTER" "Ljava/util/function/BiFunction;" f_SF) (hr_f_SF : f_SF.isRef = true) (hp_1 : ¬ ((((n_a2 >>> ((1 : Int32) &&& 31)) ||| p0) ||| p1) < (0 : Int32))) (hp_2 : ¬ (((n_a2 >>> ((1 : Int32) &&& 31)) - p0) < p1)) :
  qM l Z (⟨"java/lang/StringUTF16", "checkBoundsOffCount", "(II[B)V"⟩ : MethodName) jdk_52_method_94_code 3 none ws ({ frames := 2, cells := 0, slots := 0, locals := 29 } : Room) #[(.int p0), (.int p1), (.ref a2)] h0 (Qcbo Z k_a2 n_a2 fn_a2 f_SF p0 p1 a2 h0 n0) 0 0 := own_enter (plainFor_of_name pn_putc) (fun m => ef_cbo m p0 p1 a2) fun p e s m below meth c s₁ hx hby hml hlk hown hnm X0 e0 hZ hrt => by
 have hwd := qw hw
 have N0 := Fr.nil n0
 show qG p e below _ (s₁.setTop (mkF m 0 #[vI p0, vI p1, vR a2] []))
 refine qb (fun _ k => XS.iloadN X0.here hx rfl (own_e hby d48 0 rfl) rfl k) ?_
 refine qb (fun _ k => XS.iloadN X0.here hx rfl (own_e hby d48 1 rfl) rfl k) ?_
 refine qb (fun _ k => XS.aloadN X0.here hx rfl (own_e hby d48 2 rfl) rfl rfl k) ?_
 obtain ⟨_, T1, Lc1, X1, hQ1, st1⟩ := own_cS X0 hx hZ hown hml (rmul l Z A0 hw [] k_a2 n_a2 fn_a2 a2 h0 n0 Z0 P_V_a2) (hwd 286 rfl) (hwd 287 rfl) (hwd 243 rfl) (hwd 288 rfl) (by decide) pd_286 e0 (g := (mkF m 3 #[vI p0, vI p1, vR a2] [(.ref a2), (.int p1), (.int p0)])) (rest := [(.int p1), (.int p0)]) rfl rfl rfl rfl (own_e hby d48 3 rfl) rfl
 obtain ⟨rfl, Nq1, eq1⟩ := hQ1
 have N1 := Fr.app N0 Nq1
 refine qb st1 ?_
 show qG p e below _ (T1.setTop (mkF m 6 #[vI p0, vI p1, vR a2] [(.int (n_a2 >>> ((1 : Int32) &&& 31))), (.int p1), (.int p0)]))
 obtain ⟨_, T2, Lc2, X2, hQ2, st2⟩ := own_cS X1 hx hZ hown hml (rmsbo l Z A0 hw [] f_SF p0 p1 (n_a2 >>> ((1 : Int32) &&& 31)) h0 n0 Z0 P_S_SF hr_f_SF hp_1 hp_2) (hwd 289 rfl) (hwd 290 rfl) (hwd 1 rfl) (hwd 291 rfl) (by decide) pd_92 eq1 (g := (mkF m 6 #[vI p0, vI p1, vR a2] [(.int (n_a2 >>> ((1 : Int32) &&& 31))), (.int p1), (.int p0)])) (rest := []) rfl rfl rfl rfl (own_e hby d48 4 rfl) rfl
 obtain ⟨rfl, Nq2, eq2⟩ := hQ2
 have N2 := Fr.app N1 Nq2
 refine qb st2 ?_
 show qG p e below _ (T2.setTop (mkF m 9 #[vI p0, vI p1, vR a2] [(.int p0)]))
 refine qb (fun _ k => XS.pop X2.here hx rfl (own_e hby d48 5 rfl) rfl rfl k) ?_
 exact own_ret0 X2 hx hrt (own_e hby d48 6 rfl) hlk eq2 ⟨rfl, N2, rfl⟩ (by decide) (by decide)
theorem pd_283 : parseMethodDescriptor "(II[B)V" = some ⟨[.int, .int, (.array .byte)], none⟩ := by decide +kernel
theorem d47 : own_ds jdk_52_method_86_code [(0, .iload_n 3, 1), (1, .iload 4, 2), (3, .aload_n 2, 1), (4, .invokestatic 173, 3), (7, .iconst 0, 1), (8, .istore 5, 2), (10, .iload 5, 2), (12, .iload 4, 2), (14, .if_icmp .ge 27, 3), (17, .aload_n 2, 1), (18, .iload_n 3, 1), (19, .iinc 3 1, 3), (22, .aload_n 0, 1), (23, .iload_n 1, 1), (24, .iinc 1 1, 3), (27, .baload, 1), (28, .sipush 255, 3), (31, .iand, 1), (32, .invokestatic 111, 3), (35, .iinc 5 1, 3), (38, .goto (-28), 3), (41, .return_, 1)] = true := by decide +kernel
theorem ef_infZ (m : MethodId) (a0 a2 : Addr) : entryFrame m #[(.ref a0), (.int 0), (.ref a2), (.int 0), (.int 0)] 6 = mkF m 0 #[vR a0, vI 0, vR a2, vI 0, vI 0, .unset] [] := rfl
def QinfZ (Z : State) (k_a2 : ClassId) (n_a2 : Int32) (fn_a2 : Nat → Int32) (f_SF : Value) (a0 a2 : Addr) (h0 : Heap) (n0 : Nat) (v : Option Value) (h : Heap) (L : List Loc) : Prop := v = none ∧ Fr n0 L ∧ h = h0
theorem rminfZ (l : Launch) (Z : State) (A0 : Array Value) (hw : ∀ d ∈ tables_1, d.before A0 Z = true) (ws : List Jvm.Cond) (k_a2 : ClassId) (n_a2 : Int32) (fn_a2 : Nat → Int32) (f_SF : Value) (a0 a2 : Addr) (h0 : Heap) (n0 : Nat) (Z0 : n0 ≤ h0.size) (P_V_a2 : qA Z h0 a2 k_a2 .byte n_a2 (fun i => .int (fn_a2 i))) (P_S_SF : Sta Z h0 "jdk/internal/util/Preconditions" "SIOOBE_FORMATTER" "Ljava/util/function/BiFunction;" f_SF) (hr_f_SF : f_SF.isRef = true) (hp_1 : ¬ ((((n_a2 >>> ((1 : Int32) &&& 31)) ||| (0 : Int32)) ||| (0 : Int32)) < (0 : Int32))) (hp_2 : ¬ (((n_a2 >>> ((1 : Int32) &&& 31)) - (0 : Int32)) < (0 : Int32))) :
  qM l Z (⟨"java/lang/StringUTF16", "inflate", "([BI[BII)V"⟩ : MethodName) jdk_52_method_86_code 6 none ws ({ frames := 3, cells := 0, slots := 0, locals := 43 } : Room) #[(.ref a0), (.int 0), (.ref a2), (.int 0), (.int 0)] h0 (QinfZ Z k_a2 n_a2 fn_a2 f_SF a0 a2 h0 n0) 0 0 := own_enter (plainFor_of_name pn_putc) (fun m => ef_infZ m a0 a2) fun p e s m below meth c s₁ hx hby hml hlk hown hnm X0 e0 hZ hrt => by
 have hwd := qw hw
 have N0 := Fr.nil n0
 show qG p e below _ (s₁.setTop (mkF m 0 #[vR a0, vI 0, vR a2, vI 0, vI 0, .unset] []))
 refine qb (fun _ k => XS.iloadN X0.here hx rfl (own_e hby d47 0 rfl) rfl k) ?_
 refine qb (fun _ k => XS.iload X0.here hx rfl (own_e hby d47 1 rfl) rfl k) ?_
 refine qb (fun _ k => XS.aloadN X0.here hx rfl (own_e hby d47 2 rfl) rfl rfl k) ?_
 obtain ⟨_, T1, Lc1, X1, hQ1, st1⟩ := own_cS X0 hx hZ hown hml (rmcbo l Z A0 hw [] k_a2 n_a2 fn_a2 f_SF (0 : Int32) (0 : Int32) a2 h0 n0 Z0 P_V_a2 P_S_SF hr_f_SF hp_1 hp_2) (hwd 283 rfl) (hwd 284 rfl) (hwd 243 rfl) (hwd 285 rfl) (by decide) pd_283 e0 (g := (mkF m 4 #[vR a0, vI 0, vR a2, vI 0, vI 0, .unset] [(.ref a2), (.int 0), (.int 0)])) (rest := []) rfl rfl rfl rfl (own_e hby d47 3 rfl) rfl
 obtain ⟨rfl, Nq1, eq1⟩ := hQ1
 have N1 := Fr.app N0 Nq1
 refine qb st1 ?_
 show qG p e below _ (T1.setTop (mkF m 7 #[vR a0, vI 0, vR a2, vI 0, vI 0, .unset] []))
 refine qb (fun _ k => XS.iconst X1.here hx rfl (own_e hby d47 4 rfl) k) ?_
 refine qb (fun _ k => XS.istore X1.here hx rfl (own_e hby d47 5 rfl) rfl (l' := #[vR a0, vI 0, vR a2, vI 0, vI 0, vI 0]) rfl k) ?_
 show qG p e below _ (T1.setTop (mkF m 10 #[vR a0, vI 0, vR a2, vI 0, vI 0, vI 0] []))
 refine qb (fun _ k => XS.iload X1.here hx rfl (own_e hby d47 6 rfl) rfl k) ?_
 refine qb (fun _ k => XS.iload X1.here hx rfl (own_e hby d47 7 rfl) rfl k) ?_
 refine qb (fun _ k => XS.icmpYes X1.here hx rfl (pc0 := 14) (pc' := 41) rfl (own_e hby d47 8 rfl) rfl (flt (by decide : ¬ ((0 : Int32) < (0 : Int32)))).2.1 (by decide) (by decide) k) ?_
 show qG p e below _ (T1.setTop (mkF m 41 #[vR a0, vI 0, vR a2, vI 0, vI 0, vI 0] []))
 exact own_ret0 X1 hx hrt (own_e hby d47 21 rfl) hlk eq1 ⟨rfl, N1, rfl⟩ (by decide) (by decide)
theorem pd_277 : parseMethodDescriptor "([BI[BII)V" = some ⟨[(.array .byte), .int, (.array .byte), .int, .int], none⟩ := by decide +kernel
theorem d46 : own_ds jdk_43_method_50_code [(0, .aload_n 0, 1), (1, .iload_n 1, 1), (2, .aload_n 2, 1), (3, .iload_n 3, 1), (4, .iload 4, 2), (6, .invokestatic 240, 3), (9, .return_, 1)] = true := by decide +kernel
theorem ef_slZ (m : MethodId) (a0 a2 : Addr) : entryFrame m #[(.ref a0), (.int 0), (.ref a2), (.int 0), (.int 0)] 5 = mkF m 0 #[vR a0, vI 0, vR a2, vI 0, vI 0] [] := rfl
def QslZ (Z : State) (k_a2 : ClassId) (n_a2 : Int32) (fn_a2 : Nat → Int32) (f_SF : Value) (a0 a2 : Addr) (h0 : Heap) (n0 : Nat) (v : Option Value) (h : Heap) (L : List Loc) : Prop := v = none ∧ Fr n0 L ∧ h = h0
theorem rmslZ (l : Launch) (Z : State) (A0 : Array Value) (hw : ∀ d ∈ tables_1, d.before A0 Z = true) (ws : List Jvm.Cond) (k_a2 : ClassId) (n_a2 : Int32) (fn_a2 : Nat → Int32) (f_SF : Value) (a0 a2 : Addr) (h0 : Heap) (n0 : Nat) (Z0 : n0 ≤ h0.size) (P_V_a2 : qA Z h0 a2 k_a2 .byte n_a2 (fun i => .int (fn_a2 i))) (P_S_SF : Sta Z h0 "jdk/internal/util/Preconditions" "SIOOBE_FORMATTER" "Ljava/util/function/BiFunction;" f_SF) (hr_f_SF : f_SF.isRef = true) (hp_1 : ¬ ((((n_a2 >>> ((1 : Int32) &&& 31)) ||| (0 : Int32)) ||| (0 : Int32)) < (0 : Int32))) (hp_2 : ¬ (((n_a2 >>> ((1 : Int32) &&& 31)) - (0 : Int32)) < (0 : Int32))) :
  qM l Z (⟨"java/lang/StringLatin1", "inflate", "([BI[BII)V"⟩ : MethodName) jdk_43_method_50_code 5 none ws ({ frames := 4, cells := 0, slots := 0, locals := 60 } : Room) #[(.ref a0), (.int 0), (.ref a2), (.int 0), (.int 0)] h0 (QslZ Z k_a2 n_a2 fn_a2 f_SF a0 a2 h0 n0) 0 0 := own_enter (plainFor_of_name pn_l1tb) (fun m => ef_slZ m a0 a2) fun p e s m below meth c s₁ hx hby hml hlk hown hnm X0 e0 hZ hrt => by
 have hwd := qw hw
 have N0 := Fr.nil n0
 show qG p e below _ (s₁.setTop (mkF m 0 #[vR a0, vI 0, vR a2, vI 0, vI 0] []))
 refine qb (fun _ k => XS.aloadN X0.here hx rfl (own_e hby d46 0 rfl) rfl rfl k) ?_
 refine qb (fun _ k => XS.iloadN X0.here hx rfl (own_e hby d46 1 rfl) rfl k) ?_
 refine qb (fun _ k => XS.aloadN X0.here hx rfl (own_e hby d46 2 rfl) rfl rfl k) ?_
 refine qb (fun _ k => XS.iloadN X0.here hx rfl (own_e hby d46 3 rfl) rfl k) ?_
 refine qb (fun _ k => XS.iload X0.here hx rfl (own_e hby d46 4 rfl) rfl k) ?_
 obtain ⟨_, T1, Lc1, X1, hQ1, st1⟩ := own_cS X0 hx hZ hown hml (rminfZ l Z A0 hw [] k_a2 n_a2 fn_a2 f_SF a0 a2 h0 n0 Z0 P_V_a2 P_S_SF hr_f_SF hp_1 hp_2) (hwd 280 rfl) (hwd 281 rfl) (hwd 243 rfl) (hwd 282 rfl) (by decide) pd_277 e0 (g := (mkF m 6 #[vR a0, vI 0, vR a2, vI 0, vI 0] [(.int 0), (.int 0), (.ref a2), (.int 0), (.ref a0)])) (rest := []) rfl rfl rfl rfl (own_e hby d46 5 rfl) rfl
 obtain ⟨rfl, Nq1, eq1⟩ := hQ1
 have N1 := Fr.app N0 Nq1
 refine qb st1 ?_
 show qG p e below _ (T1.setTop (mkF m 9 #[vR a0, vI 0, vR a2, vI 0, vI 0] []))
 exact own_ret0 X1 hx hrt (own_e hby d46 6 rfl) hlk eq1 ⟨rfl, N1, rfl⟩ (by decide) (by decide)
theorem ef_infL (m : MethodId) (a0 a2 : Addr) (p3 p4 : Int32) : entryFrame m #[(.ref a0), (.int 0), (.ref a2), (.int p3), (.int p4)] 6 = mkF m 0 #[vR a0, vI 0, vR a2, vI p3, vI p4, .unset] [] := rfl
theorem ob_infL_28 (fn_a0 : Nat → Int32) (n_a2 : Int32) (fn_a2 : Nat → Int32) (f_SF : Value) (p3 p4 : Int32) (z12 z13 z14 : Int32) (gg15 : Nat → Int32) (hr_f_SF : f_SF.isRef = true) (hb : 0 ≤ (p3).toInt ∧ 0 ≤ (p4).toInt ∧ (p3).toInt + (p4).toInt ≤ 48 ∧ 2 * ((p3).toInt + (p4).toInt) ≤ (n_a2).toInt) (hp_2 : ¬ ((((n_a2 >>> ((1 : Int32) &&& 31)) ||| p3) ||| p4) < (0 : Int32))) (hp_3 : ¬ (((n_a2 >>> ((1 : Int32) &&& 31)) - p3) < p4)) (hi22 : own_inI fn_a0 fn_a2 n_a2 p3 p4 z12 z13 z14 gg15) (c24 : z14 < p4) : (¬ z12 < 0) ∧ z12 < p4 := by
  exact own_inIn hi22 c24
theorem ob_infL_29 (fn_a0 : Nat → Int32) (n_a2 : Int32) (fn_a2 : Nat → Int32) (f_SF : Value) (p3 p4 : Int32) (z12 z13 z14 : Int32) (gg15 : Nat → Int32) (hr_f_SF : f_SF.isRef = true) (hb : 0 ≤ (p3).toInt ∧ 0 ≤ (p4).toInt ∧ (p3).toInt + (p4).toInt ≤ 48 ∧ 2 * ((p3).toInt + (p4).toInt) ≤ (n_a2).toInt) (hp_2 : ¬ ((((n_a2 >>> ((1 : Int32) &&& 31)) ||| p3) ||| p4) < (0 : Int32))) (hp_3 : ¬ (((n_a2 >>> ((1 : Int32) &&& 31)) - p3) < p4)) (hi22 : own_inI fn_a0 fn_a2 n_a2 p3 p4 z12 z13 z14 gg15) (c24 : z14 < p4) : (¬ (z13 <<< ((1 : Int32) &&& 31)) < 0) ∧ (z13 <<< ((1 : Int32) &&& 31)) < n_a2 := by
  exact own_inP hi22 c24
theorem ob_infL_30 (fn_a0 : Nat → Int32) (n_a2 : Int32) (fn_a2 : Nat → Int32) (f_SF : Value) (p3 p4 : Int32) (z12 z13 z14 : Int32) (gg15 : Nat → Int32) (hr_f_SF : f_SF.isRef = true) (hb : 0 ≤ (p3).toInt ∧ 0 ≤ (p4).toInt ∧ (p3).toInt + (p4).toInt ≤ 48 ∧ 2 * ((p3).toInt + (p4).toInt) ≤ (n_a2).toInt) (hp_2 : ¬ ((((n_a2 >>> ((1 : Int32) &&& 31)) ||| p3) ||| p4) < (0 : Int32))) (hp_3 : ¬ (((n_a2 >>> ((1 : Int32) &&& 31)) - p3) < p4)) (hi22 : own_inI fn_a0 fn_a2 n_a2 p3 p4 z12 z13 z14 gg15) (c24 : z14 < p4) : (¬ ((z13 <<< ((1 : Int32) &&& 31)) + (1 : Int32)) < 0) ∧ ((z13 <<< ((1 : Int32) &&& 31)) + (1 : Int32)) < n_a2 := by
  exact own_inQ hi22 c24
theorem ob_infL_31 (fn_a0 : Nat → Int32) (n_a2 : Int32) (fn_a2 : Nat → Int32) (f_SF : Value) (p3 p4 : Int32) (z12 z13 z14 : Int32) (gg15 : Nat → Int32) (hr_f_SF : f_SF.isRef = true) (hb : 0 ≤ (p3).toInt ∧ 0 ≤ (p4).toInt ∧ (p3).toInt + (p4).toInt ≤ 48 ∧ 2 * ((p3).toInt + (p4).toInt) ≤ (n_a2).toInt) (hp_2 : ¬ ((((n_a2 >>> ((1 : Int32) &&& 31)) ||| p3) ||| p4) < (0 : Int32))) (hp_3 : ¬ (((n_a2 >>> ((1 : Int32) &&& 31)) - p3) < p4)) (hi22 : own_inI fn_a0 fn_a2 n_a2 p3 p4 z12 z13 z14 gg15) (c24 : z14 < p4) : (p4).toNatClampNeg - ((z14 + (1 : Int32))).toNatClampNeg < (p4).toNatClampNeg - (z14).toNatClampNeg := by
  exact own_inL hi22 c24
theorem ob_infL_32 (fn_a0 : Nat → Int32) (n_a2 : Int32) (fn_a2 : Nat → Int32) (f_SF : Value) (p3 p4 : Int32) (z12 z13 z14 : Int32) (gg15 : Nat → Int32) (hr_f_SF : f_SF.isRef = true) (hb : 0 ≤ (p3).toInt ∧ 0 ≤ (p4).toInt ∧ (p3).toInt + (p4).toInt ≤ 48 ∧ 2 * ((p3).toInt + (p4).toInt) ≤ (n_a2).toInt) (hp_2 : ¬ ((((n_a2 >>> ((1 : Int32) &&& 31)) ||| p3) ||| p4) < (0 : Int32))) (hp_3 : ¬ (((n_a2 >>> ((1 : Int32) &&& 31)) - p3) < p4)) (hi22 : own_inI fn_a0 fn_a2 n_a2 p3 p4 z12 z13 z14 gg15) (c24 : z14 < p4) : own_inI fn_a0 fn_a2 n_a2 p3 p4 (z12 + (1 : Int32)) (z13 + (1 : Int32)) (z14 + (1 : Int32)) (qu (qu gg15 ((z13 <<< ((1 : Int32) &&& 31))).toNatClampNeg (nar .byte (((fn_a0 (z12).toNatClampNeg) &&& (255 : Int32)).toInt8.toInt32))) (((z13 <<< ((1 : Int32) &&& 31)) + (1 : Int32))).toNatClampNeg (nar .byte ((((fn_a0 (z12).toNatClampNeg) &&& (255 : Int32)) >>> ((8 : Int32) &&& 31)).toInt8.toInt32))) := by
  exact own_inB hi22 c24
theorem ob_infL_33 (fn_a0 : Nat → Int32) (n_a2 : Int32) (fn_a2 : Nat → Int32) (f_SF : Value) (p3 p4 : Int32) (z12 z13 z14 : Int32) (gg15 : Nat → Int32) (hr_f_SF : f_SF.isRef = true) (hb : 0 ≤ (p3).toInt ∧ 0 ≤ (p4).toInt ∧ (p3).toInt + (p4).toInt ≤ 48 ∧ 2 * ((p3).toInt + (p4).toInt) ≤ (n_a2).toInt) (hp_2 : ¬ ((((n_a2 >>> ((1 : Int32) &&& 31)) ||| p3) ||| p4) < (0 : Int32))) (hp_3 : ¬ (((n_a2 >>> ((1 : Int32) &&& 31)) - p3) < p4)) (hi22 : own_inI fn_a0 fn_a2 n_a2 p3 p4 z12 z13 z14 gg15) (c24 : ¬ (z14 < p4)) : own_inf fn_a0 fn_a2 gg15 (p3).toNatClampNeg (p4).toNatClampNeg := by
  exact own_inE hi22 c24
theorem ob_infL_34 (fn_a0 : Nat → Int32) (n_a2 : Int32) (fn_a2 : Nat → Int32) (f_SF : Value) (p3 p4 : Int32) (hr_f_SF : f_SF.isRef = true) (hb : 0 ≤ (p3).toInt ∧ 0 ≤ (p4).toInt ∧ (p3).toInt + (p4).toInt ≤ 48 ∧ 2 * ((p3).toInt + (p4).toInt) ≤ (n_a2).toInt) (hp_2 : ¬ ((((n_a2 >>> ((1 : Int32) &&& 31)) ||| p3) ||| p4) < (0 : Int32))) (hp_3 : ¬ (((n_a2 >>> ((1 : Int32) &&& 31)) - p3) < p4)) : own_inI fn_a0 fn_a2 n_a2 p3 p4 (0 : Int32) p3 (0 : Int32) fn_a2 := by
  exact own_inS hb
def QinfL (Z : State) (k_a0 : ClassId) (fn_a0 : Nat → Int32) (k_a2 : ClassId) (n_a2 : Int32) (fn_a2 : Nat → Int32) (f_SF : Value) (a0 a2 : Addr) (p3 p4 : Int32) (h0 : Heap) (n0 : Nat) (v : Option Value) (h : Heap) (L : List Loc) : Prop := ∃ (gg5001 : Nat → Int32), v = none ∧ Fr n0 L ∧ Keep h0 h [a2] ∧ qA Z h a2 k_a2 .byte n_a2 (fun i => .int (gg5001 i)) ∧ (own_inf fn_a0 fn_a2 gg5001 (p3).toNatClampNeg (p4).toNatClampNeg)
theorem rminfL (l : Launch) (Z : State) (A0 : Array Value) (hw : ∀ d ∈ tables_1, d.before A0 Z = true) (ws : List Jvm.Cond) (k_a0 : ClassId) (fn_a0 : Nat → Int32) (k_a2 : ClassId) (n_a2 : Int32) (fn_a2 : Nat → Int32) (f_SF : Value) (a0 a2 : Addr) (p3 p4 : Int32) (h0 : Heap) (n0 : Nat) (Z0 : n0 ≤ h0.size) (P_V_a0 : qA Z h0 a0 k_a0 .byte p4 (fun i => .int (fn_a0 i))) (P_V_a2 : qA Z h0 a2 k_a2 .byte n_a2 (fun i => .int (fn_a2 i))) (P_S_SF : Sta Z h0 "jdk/internal/util/Preconditions" "SIOOBE_FORMATTER" "Ljava/util/function/BiFunction;" f_SF) (hr_f_SF : f_SF.isRef = true) (P_S_UD : Sta Z h0 cU "$assertionsDisabled" "Z" (.int 1)) (P_S_HI_BYTE_SHIFT : Sta Z h0 cU "HI_BYTE_SHIFT" "I" (.int 0)) (P_S_LO_BYTE_SHIFT : Sta Z h0 cU "LO_BYTE_SHIFT" "I" (.int 8)) (hb : 0 ≤ (p3).toInt ∧ 0 ≤ (p4).toInt ∧ (p3).toInt + (p4).toInt ≤ 48 ∧ 2 * ((p3).toInt + (p4).toInt) ≤ (n_a2).toInt) (hp_2 : ¬ ((((n_a2 >>> ((1 : Int32) &&& 31)) ||| p3) ||| p4) < (0 : Int32))) (hp_3 : ¬ (((n_a2 >>> ((1 : Int32) &&& 31)) - p3) < p4)) (ne_a0_a2 : a0 ≠ a2) (g_a2 : n0 ≤ a2) :
  qM l Z (⟨"java/lang/StringUTF16", "inflate", "([BI[BII)V"⟩ : MethodName) jdk_52_method_86_code 6 none ws ({ frames := 3, cells := 0, slots := 0, locals := 43 } : Room) #[(.ref a0), (.int 0), (.ref a2), (.int p3), (.int p4)] h0 (QinfL Z k_a0 fn_a0 k_a2 n_a2 fn_a2 f_SF a0 a2 p3 p4 h0 n0) 0 0 := own_enter (plainFor_of_name pn_putc) (fun m => ef_infL m a0 a2 p3 p4) fun p e s m below meth c s₁ hx hby hml hlk hown hnm X0 e0 hZ hrt => by
 have hwd := qw hw
 have N0 := Fr.nil n0
 show qG p e below _ (s₁.setTop (mkF m 0 #[vR a0, vI 0, vR a2, vI p3, vI p4, .unset] []))
 refine qb (fun _ k => XS.iloadN X0.here hx rfl (own_e hby d47 0 rfl) rfl k) ?_
 refine qb (fun _ k => XS.iload X0.here hx rfl (own_e hby d47 1 rfl) rfl k) ?_
 refine qb (fun _ k => XS.aloadN X0.here hx rfl (own_e hby d47 2 rfl) rfl rfl k) ?_
 obtain ⟨_, T1, Lc1, X1, hQ1, st1⟩ := own_cS X0 hx hZ hown hml (rmcbo l Z A0 hw [] k_a2 n_a2 fn_a2 f_SF p3 p4 a2 h0 n0 Z0 P_V_a2 P_S_SF hr_f_SF hp_2 hp_3) (hwd 283 rfl) (hwd 284 rfl) (hwd 243 rfl) (hwd 285 rfl) (by decide) pd_283 e0 (g := (mkF m 4 #[vR a0, vI 0, vR a2, vI p3, vI p4, .unset] [(.ref a2), (.int p4), (.int p3)])) (rest := []) rfl rfl rfl rfl (own_e hby d47 3 rfl) rfl
 obtain ⟨rfl, Nq1, eq1⟩ := hQ1
 have N1 := Fr.app N0 Nq1
 refine qb st1 ?_
 show qG p e below _ (T1.setTop (mkF m 7 #[vR a0, vI 0, vR a2, vI p3, vI p4, .unset] []))
 refine qb (fun _ k => XS.iconst X1.here hx rfl (own_e hby d47 4 rfl) k) ?_
 refine qb (fun _ k => XS.istore X1.here hx rfl (own_e hby d47 5 rfl) rfl (l' := #[vR a0, vI 0, vR a2, vI p3, vI p4, vI 0]) rfl k) ?_
 show qG p e below _ (T1.setTop (mkF m 10 #[vR a0, vI 0, vR a2, vI p3, vI p4, vI 0] []))
 have LP10 : ∀ (fu11 : Nat) (T2 : State) (L3 : List Loc) (h4 : Heap) (z12 z13 z14 : Int32) (gg15 : Nat → Int32), fu11 = (p4).toNatClampNeg - (z14).toNatClampNeg → Stand p l e ({ frames := 3, cells := 0, slots := 0, locals := 43 } : Room) s m #[(.ref a0), (.int 0), (.ref a2), (.int p3), (.int p4)] below meth c T2 L3 0 0 → T2.heap = h4 → Fr n0 L3 → Keep h0 h4 [a2] → n0 ≤ h4.size → qA Z h4 a0 k_a0 .byte p4 (fun i => .int (fn_a0 i)) → qA Z h4 a2 k_a2 .byte n_a2 (fun i => .int (gg15 i)) → Sta Z h4 "jdk/internal/util/Preconditions" "SIOOBE_FORMATTER" "Ljava/util/function/BiFunction;" f_SF → Sta Z h4 cU "$assertionsDisabled" "Z" (.int 1) → Sta Z h4 cU "HI_BYTE_SHIFT" "I" (.int 0) → Sta Z h4 cU "LO_BYTE_SHIFT" "I" (.int 8) → (own_inI fn_a0 fn_a2 n_a2 p3 p4 z12 z13 z14 gg15) → qG p e below (own_Fin s 0 0 (QinfL Z k_a0 fn_a0 k_a2 n_a2 fn_a2 f_SF a0 a2 p3 p4 h0 n0)) (T2.setTop (mkF m 10 #[vR a0, vI z12, vR a2, vI z13, vI p4, vI z14] [])) := by
  intro fu11
  induction fu11 using Nat.strongRecOn with
  | _ fu11 ih =>
   intro T2 L3 h4 z12 z13 z14 gg15 hfu23 X5 e6 N7 K8 Z9 F16 F17 F18 F19 F20 F21 hi22
   refine qb (fun _ k => XS.iload X5.here hx rfl (own_e hby d47 6 rfl) rfl k) ?_
   refine qb (fun _ k => XS.iload X5.here hx rfl (own_e hby d47 7 rfl) rfl k) ?_
   by_cases c24 : z14 < p4
   ·skip
    refine qb (fun _ k => XS.icmpNo X5.here hx rfl (own_e hby d47 8 rfl) rfl (tlt c24).2.1 k) ?_
    show qG p e below _ (T2.setTop (mkF m 17 #[vR a0, vI z12, vR a2, vI z13, vI p4, vI z14] []))
    refine qb (fun _ k => XS.aloadN X5.here hx rfl (own_e hby d47 9 rfl) rfl rfl k) ?_
    refine qb (fun _ k => XS.iloadN X5.here hx rfl (own_e hby d47 10 rfl) rfl k) ?_
    refine qb (fun _ k => XS.iinc X5.here hx rfl (own_e hby d47 11 rfl) rfl (l' := #[vR a0, vI z12, vR a2, vI (z13 + (1 : Int32)), vI p4, vI z14]) rfl k) ?_
    show qG p e below _ (T2.setTop (mkF m 22 #[vR a0, vI z12, vR a2, vI (z13 + (1 : Int32)), vI p4, vI z14] [(.int z13), (.ref a2)]))
    refine qb (fun _ k => XS.aloadN X5.here hx rfl (own_e hby d47 12 rfl) rfl rfl k) ?_
    refine qb (fun _ k => XS.iloadN X5.here hx rfl (own_e hby d47 13 rfl) rfl k) ?_
    refine qb (fun _ k => XS.iinc X5.here hx rfl (own_e hby d47 14 rfl) rfl (l' := #[vR a0, vI (z12 + (1 : Int32)), vR a2, vI (z13 + (1 : Int32)), vI p4, vI z14]) rfl k) ?_
    show qG p e below _ (T2.setTop (mkF m 27 #[vR a0, vI (z12 + (1 : Int32)), vR a2, vI (z13 + (1 : Int32)), vI p4, vI z14] [(.int z12), (.ref a0), (.int z13), (.ref a2)]))
    obtain ⟨cl25, Ar25, qq25, S25, M25, H25, G25⟩ := id F16
    have hin25 : ¬ (z12 < 0 ∨ cl25.slots.size ≤ (z12).toNatClampNeg) := inb_of S25 (ob_infL_28 fn_a0 n_a2 fn_a2 f_SF p3 p4 z12 z13 z14 gg15 hr_f_SF hb hp_2 hp_3 hi22 c24)
    refine qb (fun t k => X5.baloadBytes hx (j := z12) (v := (.int (fn_a0 (z12).toNatClampNeg))) (by rw [e6]; exact Ar25.1) (State.isArrayOf_alike hZ.alike Ar25.2.1) Ar25.2.2 hin25 (H25 _ (Nat.lt_of_not_le fun y => hin25 (Or.inr y))) (g := (mkF m 27 #[vR a0, vI (z12 + (1 : Int32)), vR a2, vI (z13 + (1 : Int32)), vI p4, vI z14] [(.int z12), (.ref a0), (.int z13), (.ref a2)])) rfl rfl (own_e hby d47 15 rfl) _ k) ?_
    refine qb (fun _ k => XS.sipush X5.here hx rfl (own_e hby d47 16 rfl) k) ?_
    refine qb (fun _ k => XS.iand X5.here hx rfl (own_e hby d47 17 rfl) rfl k) ?_
    obtain ⟨_, T26, Lc26, X26, hQ26, st26⟩ := own_cS X5 hx hZ hown hml (rmputc l Z A0 hw [] k_a2 n_a2 gg15 a2 z13 ((fn_a0 (z12).toNatClampNeg) &&& (255 : Int32)) h4 n0 Z9 F17 F19 F20 F21 (ob_infL_29 fn_a0 n_a2 fn_a2 f_SF p3 p4 z12 z13 z14 gg15 hr_f_SF hb hp_2 hp_3 hi22 c24) g_a2 (ob_infL_30 fn_a0 n_a2 fn_a2 f_SF p3 p4 z12 z13 z14 gg15 hr_f_SF hb hp_2 hp_3 hi22 c24)) (hwd 261 rfl) (hwd 262 rfl) (hwd 243 rfl) (hwd 263 rfl) (by decide) pd_261 e6 (g := (mkF m 32 #[vR a0, vI (z12 + (1 : Int32)), vR a2, vI (z13 + (1 : Int32)), vI p4, vI z14] [(.int ((fn_a0 (z12).toNatClampNeg) &&& (255 : Int32))), (.int z13), (.ref a2)])) (rest := []) rfl rfl rfl rfl (own_e hby d47 18 rfl) rfl
    obtain ⟨rfl, Nq26, Kq26, F27⟩ := hQ26
    have N26 := Fr.app N7 Nq26
    have K26 : Keep h0 T26.heap [a2] := K8.trans Kq26 ((allS (Or.inl (List.mem_of_getElem? (i := 0) rfl)) all0))
    have Z26 := ql Z9 Kq26.1
    refine qb st26 ?_
    show qG p e below _ (T26.setTop (mkF m 35 #[vR a0, vI (z12 + (1 : Int32)), vR a2, vI (z13 + (1 : Int32)), vI p4, vI z14] []))
    refine qb (fun _ k => XS.iinc X26.here hx rfl (own_e hby d47 19 rfl) rfl (l' := #[vR a0, vI (z12 + (1 : Int32)), vR a2, vI (z13 + (1 : Int32)), vI p4, vI (z14 + (1 : Int32))]) rfl k) ?_
    show qG p e below _ (T26.setTop (mkF m 38 #[vR a0, vI (z12 + (1 : Int32)), vR a2, vI (z13 + (1 : Int32)), vI p4, vI (z14 + (1 : Int32))] []))
    refine qb (fun _ k => XS.goto X26.here hx rfl (pc0 := 38) (pc' := 10) rfl (own_e hby d47 20 rfl) (by decide) (by decide) k) ?_
    show qG p e below _ (T26.setTop (mkF m 10 #[vR a0, vI (z12 + (1 : Int32)), vR a2, vI (z13 + (1 : Int32)), vI p4, vI (z14 + (1 : Int32))] []))
    have F28 := (F16.keep Kq26 (ninS ne_a0_a2 nin0))
    have F29 := qk F18 Kq26 (allS (qa F17) all0)
    have F30 := qk F19 Kq26 (allS (qa F17) all0)
    have F31 := qk F20 Kq26 (allS (qa F17) all0)
    have F32 := qk F21 Kq26 (allS (qa F17) all0)
    exact ih _ (by rw [hfu23]; exact (ob_infL_31 fn_a0 n_a2 fn_a2 f_SF p3 p4 z12 z13 z14 gg15 hr_f_SF hb hp_2 hp_3 hi22 c24)) _ _ _ (z12 + (1 : Int32)) (z13 + (1 : Int32)) (z14 + (1 : Int32)) (qu (qu gg15 ((z13 <<< ((1 : Int32) &&& 31))).toNatClampNeg (nar .byte (((fn_a0 (z12).toNatClampNeg) &&& (255 : Int32)).toInt8.toInt32))) (((z13 <<< ((1 : Int32) &&& 31)) + (1 : Int32))).toNatClampNeg (nar .byte ((((fn_a0 (z12).toNatClampNeg) &&& (255 : Int32)) >>> ((8 : Int32) &&& 31)).toInt8.toInt32))) rfl X26 rfl N26 K26 Z26 F28 F27 F29 F30 F31 F32 (ob_infL_32 fn_a0 n_a2 fn_a2 f_SF p3 p4 z12 z13 z14 gg15 hr_f_SF hb hp_2 hp_3 hi22 c24)
   ·skip
    refine qb (fun _ k => XS.icmpYes X5.here hx rfl (pc0 := 14) (pc' := 41) rfl (own_e hby d47 8 rfl) rfl (flt c24).2.1 (by decide) (by decide) k) ?_
    show qG p e below _ (T2.setTop (mkF m 41 #[vR a0, vI z12, vR a2, vI z13, vI p4, vI z14] []))
    exact own_ret0 X5 hx hrt (own_e hby d47 21 rfl) hlk e6 ⟨gg15, rfl, N7, K8, F17, (ob_infL_33 fn_a0 n_a2 fn_a2 f_SF p3 p4 z12 z13 z14 gg15 hr_f_SF hb hp_2 hp_3 hi22 c24)⟩ (by decide) (by decide)
 exact LP10 _ _ _ _ (0 : Int32) p3 (0 : Int32) fn_a2 rfl X1 eq1 N1 (Keep.refl h0 [a2]) Z0 P_V_a0 P_V_a2 P_S_SF P_S_UD P_S_HI_BYTE_SHIFT P_S_LO_BYTE_SHIFT (ob_infL_34 fn_a0 n_a2 fn_a2 f_SF p3 p4 hr_f_SF hb hp_2 hp_3)
theorem ef_slL (m : MethodId) (a0 a2 : Addr) (p3 p4 : Int32) : entryFrame m #[(.ref a0), (.int 0), (.ref a2), (.int p3), (.int p4)] 5 = mkF m 0 #[vR a0, vI 0, vR a2, vI p3, vI p4] [] := rfl
def QslL (Z : State) (k_a0 : ClassId) (fn_a0 : Nat → Int32) (k_a2 : ClassId) (n_a2 : Int32) (fn_a2 : Nat → Int32) (f_SF : Value) (a0 a2 : Addr) (p3 p4 : Int32) (h0 : Heap) (n0 : Nat) (v : Option Value) (h : Heap) (L : List Loc) : Prop := ∃ (gg5001 : Nat → Int32), v = none ∧ Fr n0 L ∧ Keep h0 h [a2] ∧ qA Z h a2 k_a2 .byte n_a2 (fun i => .int (gg5001 i)) ∧ ((∃ (b2_slL : Nat → Int32), (own_inf fn_a0 fn_a2 b2_slL (p3).toNatClampNeg (p4).toNatClampNeg) ∧ gg5001 = b2_slL))
theorem rmslL (l : Launch) (Z : State) (A0 : Array Value) (hw : ∀ d ∈ tables_1, d.before A0 Z = true) (ws : List Jvm.Cond) (k_a0 : ClassId) (fn_a0 : Nat → Int32) (k_a2 : ClassId) (n_a2 : Int32) (fn_a2 : Nat → Int32) (f_SF : Value) (a0 a2 : Addr) (p3 p4 : Int32) (h0 : Heap) (n0 : Nat) (Z0 : n0 ≤ h0.size) (P_V_a0 : qA Z h0 a0 k_a0 .byte p4 (fun i => .int (fn_a0 i))) (P_V_a2 : qA Z h0 a2 k_a2 .byte n_a2 (fun i => .int (fn_a2 i))) (P_S_SF : Sta Z h0 "jdk/internal/util/Preconditions" "SIOOBE_FORMATTER" "Ljava/util/function/BiFunction;" f_SF) (hr_f_SF : f_SF.isRef = true) (P_S_UD : Sta Z h0 cU "$assertionsDisabled" "Z" (.int 1)) (P_S_HI_BYTE_SHIFT : Sta Z h0 cU "HI_BYTE_SHIFT" "I" (.int 0)) (P_S_LO_BYTE_SHIFT : Sta Z h0 cU "LO_BYTE_SHIFT" "I" (.int 8)) (hb : 0 ≤ (p3).toInt ∧ 0 ≤ (p4).toInt ∧ (p3).toInt + (p4).toInt ≤ 48 ∧ 2 * ((p3).toInt + (p4).toInt) ≤ (n_a2).toInt) (hp_2 : ¬ ((((n_a2 >>> ((1 : Int32) &&& 31)) ||| p3) ||| p4) < (0 : Int32))) (hp_3 : ¬ (((n_a2 >>> ((1 : Int32) &&& 31)) - p3) < p4)) (ne_a0_a2 : a0 ≠ a2) (g_a2 : n0 ≤ a2) :
  qM l Z (⟨"java/lang/StringLatin1", "inflate", "([BI[BII)V"⟩ : MethodName) jdk_43_method_50_code 5 none ws ({ frames := 4, cells := 0, slots := 0, locals := 60 } : Room) #[(.ref a0), (.int 0), (.ref a2), (.int p3), (.int p4)] h0 (QslL Z k_a0 fn_a0 k_a2 n_a2 fn_a2 f_SF a0 a2 p3 p4 h0 n0) 0 0 := own_enter (plainFor_of_name pn_l1tb) (fun m => ef_slL m a0 a2 p3 p4) fun p e s m below meth c s₁ hx hby hml hlk hown hnm X0 e0 hZ hrt => by
 have hwd := qw hw
 have N0 := Fr.nil n0
 show qG p e below _ (s₁.setTop (mkF m 0 #[vR a0, vI 0, vR a2, vI p3, vI p4] []))
 refine qb (fun _ k => XS.aloadN X0.here hx rfl (own_e hby d46 0 rfl) rfl rfl k) ?_
 refine qb (fun _ k => XS.iloadN X0.here hx rfl (own_e hby d46 1 rfl) rfl k) ?_
 refine qb (fun _ k => XS.aloadN X0.here hx rfl (own_e hby d46 2 rfl) rfl rfl k) ?_
 refine qb (fun _ k => XS.iloadN X0.here hx rfl (own_e hby d46 3 rfl) rfl k) ?_
 refine qb (fun _ k => XS.iload X0.here hx rfl (own_e hby d46 4 rfl) rfl k) ?_
 obtain ⟨_, T1, Lc1, X1, hQ1, st1⟩ := own_cS X0 hx hZ hown hml (rminfL l Z A0 hw [] k_a0 fn_a0 k_a2 n_a2 fn_a2 f_SF a0 a2 p3 p4 h0 n0 Z0 P_V_a0 P_V_a2 P_S_SF hr_f_SF P_S_UD P_S_HI_BYTE_SHIFT P_S_LO_BYTE_SHIFT hb hp_2 hp_3 ne_a0_a2 g_a2) (hwd 280 rfl) (hwd 281 rfl) (hwd 243 rfl) (hwd 282 rfl) (by decide) pd_277 e0 (g := (mkF m 6 #[vR a0, vI 0, vR a2, vI p3, vI p4] [(.int p4), (.int p3), (.ref a2), (.int 0), (.ref a0)])) (rest := []) rfl rfl rfl rfl (own_e hby d46 5 rfl) rfl
 obtain ⟨b2, rfl, Nq1, Kq1, F3, hp4⟩ := hQ1
 have N1 := Fr.app N0 Nq1
 have K1 : Keep h0 T1.heap [a2] := (Keep.refl h0 [a2]).trans Kq1 ((allS (Or.inl (List.mem_of_getElem? (i := 0) rfl)) all0))
 have Z1 := ql Z0 Kq1.1
 refine qb st1 ?_
 show qG p e below _ (T1.setTop (mkF m 9 #[vR a0, vI 0, vR a2, vI p3, vI p4] []))
 exact own_ret0 X1 hx hrt (own_e hby d46 6 rfl) hlk rfl ⟨b2, rfl, N1, K1, F3, ⟨b2, hp4, rfl⟩⟩ (by decide) (by decide)
theorem d3 : own_ds jdk_68_method_2_code [(0, .aload_n 0, 1), (1, .invokespecial 3, 3), (4, .getstatic 18, 3), (7, .ifCond .eq 18, 3), (10, .aload_n 0, 1), (11, .iload_n 1, 1), (12, .newarray .byte, 2), (14, .putfield 15, 3), (17, .aload_n 0, 1), (18, .iconst 0, 1), (19, .putfield 22, 3), (22, .goto 16, 3), (38, .return_, 1)] = true := by decide +kernel
theorem ef_asbi (m : MethodId) (a0 : Addr) : entryFrame m #[(.ref a0), (.int 16)] 2 = mkF m 0 #[vR a0, vI 16] [] := rfl
def Qasbi (Z : State) (f_CS : Int32) (a0 : Addr) (f_a0_value : Value) (f_a0_coder f_a0_count f_a0_maybeLatin1 : Int32) (h0 : Heap) (n0 : Nat) (v : Option Value) (h : Heap) (L : List Loc) : Prop := ∃ (b3 : Addr) (k3 : ClassId), v = none ∧ Fr n0 L ∧ Keep h0 h [a0] ∧ Exa Z h a0 "java/lang/StringBuilder" ∧ Fld Z h a0 cA "value" "[B" (.ref b3) ∧ Fld Z h a0 cA "coder" "B" (.int (nar .byte (0 : Int32))) ∧ Fld Z h a0 cA "count" "I" (.int f_a0_count) ∧ Fld Z h a0 cA "maybeLatin1" "Z" (.int f_a0_maybeLatin1) ∧ (n0 ≤ b3) ∧ (h0.size ≤ b3) ∧ Exa Z h b3 "[B" ∧ qA Z h b3 k3 .byte (16 : Int32) (fun i => .int ((fun _ => (0 : Int32)) i))
theorem rmasbi (l : Launch) (Z : State) (A0 : Array Value) (hw : ∀ d ∈ tables_1, d.before A0 Z = true) (ws : List Jvm.Cond) (f_CS : Int32) (a0 : Addr) (f_a0_value : Value) (f_a0_coder f_a0_count f_a0_maybeLatin1 : Int32) (h0 : Heap) (n0 : Nat) (Z0 : n0 ≤ h0.size) (P_E_a0 : Exa Z h0 a0 "java/lang/StringBuilder") (P_S_CS : Sta Z h0 cS "COMPACT_STRINGS" "Z" (.int f_CS)) (hn_CS : ¬ (f_CS = (0 : Int32))) (P_F_a0_value : Fld Z h0 a0 cA "value" "[B" f_a0_value) (g_a0 : n0 ≤ a0) (P_F_a0_coder : Fld Z h0 a0 cA "coder" "B" (.int f_a0_coder)) (P_F_a0_count : Fld Z h0 a0 cA "count" "I" (.int f_a0_count)) (P_F_a0_maybeLatin1 : Fld Z h0 a0 cA "maybeLatin1" "Z" (.int f_a0_maybeLatin1)) :
  qM l Z (⟨"java/lang/AbstractStringBuilder", "<init>", "(I)V"⟩ : MethodName) jdk_68_method_2_code 2 none ws ({ frames := 1, cells := 1, slots := 16, locals := 12 } : Room) #[(.ref a0), (.int 16)] h0 (Qasbi Z f_CS a0 f_a0_value f_a0_coder f_a0_count f_a0_maybeLatin1 h0 n0) 1 16 := own_enter (plainFor_of_name pn_isl0) (fun m => ef_asbi m a0) fun p e s m below meth c s₁ hx hby hml hlk hown hnm X0 e0 hZ hrt => by
 have hwd := qw hw
 have N0 := Fr.nil n0
 show qG p e below _ (s₁.setTop (mkF m 0 #[vR a0, vI 16] []))
 refine qb (fun _ k => XS.aloadN X0.here hx rfl (own_e hby d3 0 rfl) rfl rfl k) ?_
 obtain ⟨T1, X1, e1, st1⟩ := initO X0 hx hZ hown (hwd 28 rfl) (hwd 29 rfl) (hwd 30 rfl) e0 (g := (mkF m 1 #[vR a0, vI 16] [(.ref a0)])) rfl (by rw [hml]; rfl) rfl (own_e hby d3 1 rfl) (by decide) (W := 0) (by show 2 * 0 + _ ≤ _; exact Nat.le_of_eq rfl) (by decide)
 refine qb st1 ?_
 show qG p e below _ (T1.setTop (mkF m 4 #[vR a0, vI 16] []))
 obtain ⟨T2, X2, e2, st2⟩ := getS2 X1 hx hZ hown (host := "") (Or.inl (hwd 31 rfl)) Via.refl e1 P_S_CS (g := (mkF m 4 #[vR a0, vI 16] [])) rfl (own_e hby d3 2 rfl)
 refine qb st2 ?_
 refine qb (fun _ k => XS.ifNo X2.here hx rfl (own_e hby d3 3 rfl) rfl ((if0 _ _).trans (feq hn_CS).1) k) ?_
 show qG p e below _ (T2.setTop (mkF m 10 #[vR a0, vI 16] []))
 refine qb (fun _ k => XS.aloadN X2.here hx rfl (own_e hby d3 4 rfl) rfl rfl k) ?_
 refine qb (fun _ k => XS.iloadN X2.here hx rfl (own_e hby d3 5 rfl) rfl k) ?_
 obtain ⟨T3, h3, k3, X3, e3, E3, A3, Ax3, st3⟩ := newPE X2 hx hZ (hwd 3 rfl) e2 (g := (mkF m 12 #[vR a0, vI 16] [(.int 16), (.ref a0)])) rfl (own_e hby d3 6 rfl) rfl (by decide) (cap := 16) (by decide) (by decide) (by decide) (by decide) (ad := "[B") (by decide)
 obtain ⟨b3, g3⟩ : ∃ z, z = h0.size := ⟨_, rfl⟩
 have ge_b3 : n0 ≤ b3 := ql Z0 (Nat.le_of_eq g3.symm)
 have sz_b3 := ql (Keep.refl h0 [a0]).1 (Nat.le_of_eq g3.symm)
 have K3 : Keep h0 h3 [a0] := (Keep.refl h0 [a0]).ext E3
 have Z3 := ql Z0 E3.1
 rw [← g3] at A3 Ax3 st3
 have V3 : qA Z h3 b3 k3 .byte (16 : Int32) (fun i => .int ((fun _ => (0 : Int32)) i)) := own_arfNew A3 (by decide)
 refine qb st3 ?_
 show qG p e below _ (T3.setTop (mkF m 14 #[vR a0, vI 16] [(.ref b3), (.ref a0)]))
 have F4 := (P_E_a0.ext E3)
 have F5 := (P_F_a0_value.ext E3)
 obtain ⟨T6, h6, X6, e6, W6, st6⟩ := putF X3 hx hZ hown (host := "") (Or.inl (hwd 32 rfl)) Via.refl e3 F5 F4 (Or.inl (hwd 33 rfl)) (hwd 17 rfl) (ty := (.array .byte)) (by decide) rfl rfl (g := (mkF m 14 #[vR a0, vI 16] [(.ref b3), (.ref a0)])) rfl rfl (own_e hby d3 7 rfl)
 have Fw6 : Fld Z h6 a0 cA "value" "[B" (.ref b3) := F5.same W6
 have K6 : Keep h0 h6 [a0] := K3.wr W6 (Or.inl (List.mem_of_getElem? (i := 0) rfl))
 have Z6 := ql Z3 (Keep.of_wr W6).1
 have N6 := Fr.snoc X6 N0 g_a0
 refine qb st6 ?_
 show qG p e below _ (T6.setTop (mkF m 17 #[vR a0, vI 16] []))
 refine qb (fun _ k => XS.aloadN X6.here hx rfl (own_e hby d3 8 rfl) rfl rfl k) ?_
 refine qb (fun _ k => XS.iconst X6.here hx rfl (own_e hby d3 9 rfl) k) ?_
 have F7 := (F4.wr W6)
 have F8 := ((P_F_a0_coder.ext E3).other W6 (Or.inr (slot_ne (Or.inl (hwd 35 rfl)) (Or.inl (hwd 33 rfl)) (by decide) (t := .byte) (t' := (.array .byte)) (by decide) (by decide))))
 obtain ⟨T9, h9, X9, e9, W9, st9⟩ := putFN X6 hx hZ hown (hwd 34 rfl) Via.refl e6 F8 F7 (Or.inl (hwd 35 rfl)) (hwd 17 rfl) (ty := .byte) (v' := (.int (nar .byte (0 : Int32)))) (by decide) rfl (fits_nar_byte _) (g := (mkF m 19 #[vR a0, vI 16] [(.int 0), (.ref a0)])) rfl rfl (own_e hby d3 10 rfl)
 have Fw9 : Fld Z h9 a0 cA "coder" "B" (.int (nar .byte (0 : Int32))) := F8.same W9
 have K9 : Keep h0 h9 [a0] := K6.wr W9 (Or.inl (List.mem_of_getElem? (i := 0) rfl))
 have Z9 := ql Z6 (Keep.of_wr W9).1
 have N9 := Fr.snoc X9 N6 g_a0
 refine qb st9 ?_
 show qG p e below _ (T9.setTop (mkF m 22 #[vR a0, vI 16] []))
 refine qb (fun _ k => XS.goto X9.here hx rfl (pc0 := 22) (pc' := 38) rfl (own_e hby d3 11 rfl) (by decide) (by decide) k) ?_
 show qG p e below _ (T9.setTop (mkF m 38 #[vR a0, vI 16] []))
 have F10 := (F7.wr W9)
 have F11 := (Fw6.other W9 (Or.inr (slot_ne (Or.inl (hwd 33 rfl)) (Or.inl (hwd 35 rfl)) (by decide) (t := (.array .byte)) (t' := .byte) (by decide) (by decide))))
 have F12 := (((P_F_a0_count.ext E3).other W6 (Or.inr (slot_ne (Or.inl (hwd 60 rfl)) (Or.inl (hwd 33 rfl)) (by decide) (t := .int) (t' := (.array .byte)) (by decide) (by decide)))).other W9 (Or.inr (slot_ne (Or.inl (hwd 60 rfl)) (Or.inl (hwd 35 rfl)) (by decide) (t := .int) (t' := .byte) (by decide) (by decide))))
 have F13 := (((P_F_a0_maybeLatin1.ext E3).other W6 (Or.inr (slot_ne (Or.inl (hwd 299 rfl)) (Or.inl (hwd 33 rfl)) (by decide) (t := .boolean) (t' := (.array .byte)) (by decide) (by decide)))).other W9 (Or.inr (slot_ne (Or.inl (hwd 299 rfl)) (Or.inl (hwd 35 rfl)) (by decide) (t := .boolean) (t' := .byte) (by decide) (by decide))))
 have F14 := ((Ax3.wr W6).wr W9)
 have F15 := ((V3.other W6 (qm P_E_a0.lt (Nat.le_of_eq g3.symm))).other W9 (qm P_E_a0.lt (Nat.le_of_eq g3.symm)))
 exact own_ret0 X9 hx hrt (own_e hby d3 12 rfl) hlk e9 ⟨_, _, rfl, N9, K9, F10, F11, Fw9, F12, F13, ge_b3, sz_b3, F14, F15⟩ (by decide) (by decide)
theorem pd_22 : parseMethodDescriptor "(I)V" = some ⟨[.int], none⟩ := by decide +kernel
theorem d2 : own_ds jdk_67_method_1_code [(0, .aload_n 0, 1), (1, .bipush 16, 2), (3, .invokespecial 1, 3), (6, .return_, 1)] = true := by decide +kernel
theorem pn_sbi : plainName "java/lang/StringBuilder" = true := by first | (simp [plainName, overriddenIn]; done) | decide +kernel
theorem ef_sbi (m : MethodId) (a0 : Addr) : entryFrame m #[(.ref a0)] 1 = mkF m 0 #[vR a0] [] := rfl
def Qsbi (Z : State) (f_CS : Int32) (a0 : Addr) (f_a0_value : Value) (f_a0_coder f_a0_count f_a0_maybeLatin1 : Int32) (h0 : Heap) (n0 : Nat) (v : Option Value) (h : Heap) (L : List Loc) : Prop := ∃ (b2 : Addr) (b3 : ClassId), v = none ∧ Fr n0 L ∧ Keep h0 h [a0] ∧ Exa Z h a0 "java/lang/StringBuilder" ∧ Fld Z h a0 cA "value" "[B" (.ref b2) ∧ Fld Z h a0 cA "coder" "B" (.int 0) ∧ Fld Z h a0 cA "count" "I" (.int f_a0_count) ∧ Fld Z h a0 cA "maybeLatin1" "Z" (.int f_a0_maybeLatin1) ∧ (n0 ≤ b2) ∧ (h0.size ≤ b2) ∧ Exa Z h b2 "[B" ∧ qA Z h b2 b3 .byte (16 : Int32) (fun i => .int ((fun _ => (0 : Int32)) i))
theorem rmsbi (l : Launch) (Z : State) (A0 : Array Value) (hw : ∀ d ∈ tables_1, d.before A0 Z = true) (ws : List Jvm.Cond) (f_CS : Int32) (a0 : Addr) (f_a0_value : Value) (f_a0_coder f_a0_count f_a0_maybeLatin1 : Int32) (h0 : Heap) (n0 : Nat) (Z0 : n0 ≤ h0.size) (P_E_a0 : Exa Z h0 a0 "java/lang/StringBuilder") (P_S_CS : Sta Z h0 cS "COMPACT_STRINGS" "Z" (.int f_CS)) (hn_CS : ¬ (f_CS = (0 : Int32))) (P_F_a0_value : Fld Z h0 a0 cA "value" "[B" f_a0_value) (P_F_a0_coder : Fld Z h0 a0 cA "coder" "B" (.int f_a0_coder)) (P_F_a0_count : Fld Z h0 a0 cA "count" "I" (.int f_a0_count)) (P_F_a0_maybeLatin1 : Fld Z h0 a0 cA "maybeLatin1" "Z" (.int f_a0_maybeLatin1)) (g_a0 : n0 ≤ a0) :
  qM l Z (⟨"java/lang/StringBuilder", "<init>", "()V"⟩ : MethodName) jdk_67_method_1_code 1 none ws ({ frames := 2, cells := 1, slots := 16, locals := 25 } : Room) #[(.ref a0)] h0 (Qsbi Z f_CS a0 f_a0_value f_a0_coder f_a0_count f_a0_maybeLatin1 h0 n0) 1 16 := own_enter (plainFor_of_name pn_sbi) (fun m => ef_sbi m a0) fun p e s m below meth c s₁ hx hby hml hlk hown hnm X0 e0 hZ hrt => by
 have hwd := qw hw
 have N0 := Fr.nil n0
 show qG p e below _ (s₁.setTop (mkF m 0 #[vR a0] []))
 refine qb (fun _ k => XS.aloadN X0.here hx rfl (own_e hby d2 0 rfl) rfl rfl k) ?_
 refine qb (fun _ k => XS.bipush X0.here hx rfl (own_e hby d2 1 rfl) k) ?_
 obtain ⟨_, T1, Lc1, X1, hQ1, st1⟩ := own_cI X0 hx hZ hown hml (rmasbi l Z A0 hw [] f_CS a0 f_a0_value f_a0_coder f_a0_count f_a0_maybeLatin1 h0 n0 Z0 P_E_a0 P_S_CS hn_CS P_F_a0_value g_a0 P_F_a0_coder P_F_a0_count P_F_a0_maybeLatin1) (hwd 22 rfl) (hwd 23 rfl) (hwd 26 rfl) (hwd 27 rfl) (by decide) pd_22 e0 rfl (g := (mkF m 3 #[vR a0] [(.int 16), (.ref a0)])) (rest := []) rfl rfl rfl rfl (own_e hby d2 2 rfl) rfl
 obtain ⟨b2, b3, rfl, Nq1, Kq1, F4, F5, F6, F7, F8, hp9, hp10, F11, F12⟩ := hQ1
 have N1 := Fr.app N0 Nq1
 have K1 : Keep h0 T1.heap [a0] := (Keep.refl h0 [a0]).trans Kq1 ((allS (Or.inl (List.mem_of_getElem? (i := 0) rfl)) all0))
 have Z1 := ql Z0 Kq1.1
 have sz_b2 := ql (Keep.refl h0 [a0]).1 hp10
 refine qb st1 ?_
 show qG p e below _ (T1.setTop (mkF m 6 #[vR a0] []))
 exact own_ret0 X1 hx hrt (own_e hby d2 3 rfl) hlk rfl ⟨_, _, rfl, N1, K1, F4, F5, F6, F7, F8, hp9, sz_b2, F11, F12⟩ (by decide) (by decide)
theorem d15 : own_ds jdk_29_method_65_code [(0, .iload_n 0, 1), (1, .iload_n 1, 1), (2, .if_icmp .lt 7, 3), (5, .iload_n 0, 1), (6, .goto 4, 3), (10, .ireturn, 1)] = true := by decide +kernel
theorem ef_maxA (m : MethodId) (p0 p1 : Int32) : entryFrame m #[(.int p0), (.int p1)] 2 = mkF m 0 #[vI p0, vI p1] [] := rfl
def QmaxA (Z : State) (p0 p1 : Int32) (h0 : Heap) (n0 : Nat) (v : Option Value) (h : Heap) (L : List Loc) : Prop := v = some (.int p0) ∧ Fr n0 L ∧ h = h0
theorem rmmaxA (l : Launch) (Z : State) (A0 : Array Value) (hw : ∀ d ∈ tables_1, d.before A0 Z = true) (ws : List Jvm.Cond) (p0 p1 : Int32) (h0 : Heap) (n0 : Nat) (Z0 : n0 ≤ h0.size) (ha2 : ¬ (p0 < p1)) :
  qM l Z (⟨"java/lang/Math", "max", "(II)I"⟩ : MethodName) jdk_29_method_65_code 2 (some .int) ws ({ frames := 0, cells := 0, slots := 0, locals := 0 } : Room) #[(.int p0), (.int p1)] h0 (QmaxA Z p0 p1 h0 n0) 0 0 := own_enter (Jvm.Free.JP.mathPlain rfl (by decide +kernel)) (fun m => ef_maxA m p0 p1) fun p e s m below meth c s₁ hx hby hml hlk hown hnm X0 e0 hZ hrt => by
 have hwd := qw hw
 have N0 := Fr.nil n0
 show qG p e below _ (s₁.setTop (mkF m 0 #[vI p0, vI p1] []))
 refine qb (fun _ k => XS.iloadN X0.here hx rfl (own_e hby d15 0 rfl) rfl k) ?_
 refine qb (fun _ k => XS.iloadN X0.here hx rfl (own_e hby d15 1 rfl) rfl k) ?_
 refine qb (fun _ k => XS.icmpNo X0.here hx rfl (own_e hby d15 2 rfl) rfl (flt ha2).1 k) ?_
 show qG p e below _ (s₁.setTop (mkF m 5 #[vI p0, vI p1] []))
 refine qb (fun _ k => XS.iloadN X0.here hx rfl (own_e hby d15 3 rfl) rfl k) ?_
 refine qb (fun _ k => XS.goto X0.here hx rfl (pc0 := 6) (pc' := 10) rfl (own_e hby d15 4 rfl) (by decide) (by decide) k) ?_
 show qG p e below _ (s₁.setTop (mkF m 10 #[vI p0, vI p1] [(.int p0)]))
 exact own_retI X0 hx hrt (own_e hby d15 5 rfl) hlk e0 ⟨rfl, N0, rfl⟩ (by decide) (by decide)
theorem d17 : own_ds jdk_29_method_69_code [(0, .iload_n 0, 1), (1, .iload_n 1, 1), (2, .if_icmp .gt 7, 3), (5, .iload_n 0, 1), (6, .goto 4, 3), (10, .ireturn, 1)] = true := by decide +kernel
theorem ef_minA (m : MethodId) (p0 p1 : Int32) : entryFrame m #[(.int p0), (.int p1)] 2 = mkF m 0 #[vI p0, vI p1] [] := rfl
def QminA (Z : State) (p0 p1 : Int32) (h0 : Heap) (n0 : Nat) (v : Option Value) (h : Heap) (L : List Loc) : Prop := v = some (.int p0) ∧ Fr n0 L ∧ h = h0
theorem rmminA (l : Launch) (Z : State) (A0 : Array Value) (hw : ∀ d ∈ tables_1, d.before A0 Z = true) (ws : List Jvm.Cond) (p0 p1 : Int32) (h0 : Heap) (n0 : Nat) (Z0 : n0 ≤ h0.size) (ha2 : ¬ (p1 < p0)) :
  qM l Z (⟨"java/lang/Math", "min", "(II)I"⟩ : MethodName) jdk_29_method_69_code 2 (some .int) ws ({ frames := 0, cells := 0, slots := 0, locals := 0 } : Room) #[(.int p0), (.int p1)] h0 (QminA Z p0 p1 h0 n0) 0 0 := own_enter (Jvm.Free.JP.mathPlain rfl (by decide +kernel)) (fun m => ef_minA m p0 p1) fun p e s m below meth c s₁ hx hby hml hlk hown hnm X0 e0 hZ hrt => by
 have hwd := qw hw
 have N0 := Fr.nil n0
 show qG p e below _ (s₁.setTop (mkF m 0 #[vI p0, vI p1] []))
 refine qb (fun _ k => XS.iloadN X0.here hx rfl (own_e hby d17 0 rfl) rfl k) ?_
 refine qb (fun _ k => XS.iloadN X0.here hx rfl (own_e hby d17 1 rfl) rfl k) ?_
 refine qb (fun _ k => XS.icmpNo X0.here hx rfl (own_e hby d17 2 rfl) rfl (flt ha2).2.2.1 k) ?_
 show qG p e below _ (s₁.setTop (mkF m 5 #[vI p0, vI p1] []))
 refine qb (fun _ k => XS.iloadN X0.here hx rfl (own_e hby d17 3 rfl) rfl k) ?_
 refine qb (fun _ k => XS.goto X0.here hx rfl (pc0 := 6) (pc' := 10) rfl (own_e hby d17 4 rfl) (by decide) (by decide) k) ?_
 show qG p e below _ (s₁.setTop (mkF m 10 #[vI p0, vI p1] [(.int p0)]))
 exact own_retI X0 hx hrt (own_e hby d17 5 rfl) hlk e0 ⟨rfl, N0, rfl⟩ (by decide) (by decide)
theorem pd_96 : parseMethodDescriptor "(II)I" = some ⟨[.int, .int], some .int⟩ := by decide +kernel
theorem d14 : own_ds jdk_48_method_27_code [(0, .iload_n 0, 1), (1, .iload_n 1, 1), (2, .iload_n 2, 1), (3, .invokestatic 194, 3), (6, .iadd, 1), (7, .istore_n 3, 1), (8, .iconst 0, 1), (9, .iload_n 3, 1), (10, .if_icmp .ge 11, 3), (13, .iload_n 3, 1), (14, .ldc 200, 2), (16, .if_icmp .gt 5, 3), (19, .iload_n 3, 1), (20, .ireturn, 1)] = true := by decide +kernel
theorem pn_nlen : plainName "jdk/internal/util/ArraysSupport" = true := by first | (simp [plainName, overriddenIn]; done) | decide +kernel
theorem ef_nlen (m : MethodId) (p0 p1 p2 : Int32) : entryFrame m #[(.int p0), (.int p1), (.int p2)] 4 = mkF m 0 #[vI p0, vI p1, vI p2, .unset] [] := rfl
def Qnlen (Z : State) (p0 p1 p2 : Int32) (h0 : Heap) (n0 : Nat) (v : Option Value) (h : Heap) (L : List Loc) : Prop := v = some (.int (p0 + p1)) ∧ Fr n0 L ∧ h = h0
theorem rmnlen (l : Launch) (Z : State) (A0 : Array Value) (hw : ∀ d ∈ tables_1, d.before A0 Z = true) (ws : List Jvm.Cond) (p0 p1 p2 : Int32) (h0 : Heap) (n0 : Nat) (Z0 : n0 ≤ h0.size) (hp_0 : ¬ (p1 < p2)) (ha10 : (0 : Int32) < (p0 + p1)) (ha16 : ¬ ((2147483639 : Int32) < (p0 + p1))) :
  qM l Z (⟨"jdk/internal/util/ArraysSupport", "newLength", "(III)I"⟩ : MethodName) jdk_48_method_27_code 4 (some .int) ws ({ frames := 1, cells := 0, slots := 0, locals := 14 } : Room) #[(.int p0), (.int p1), (.int p2)] h0 (Qnlen Z p0 p1 p2 h0 n0) 0 0 := own_enter (plainFor_of_name pn_nlen) (fun m => ef_nlen m p0 p1 p2) fun p e s m below meth c s₁ hx hby hml hlk hown hnm X0 e0 hZ hrt => by
 have hwd := qw hw
 have N0 := Fr.nil n0
 show qG p e below _ (s₁.setTop (mkF m 0 #[vI p0, vI p1, vI p2, .unset] []))
 refine qb (fun _ k => XS.iloadN X0.here hx rfl (own_e hby d14 0 rfl) rfl k) ?_
 refine qb (fun _ k => XS.iloadN X0.here hx rfl (own_e hby d14 1 rfl) rfl k) ?_
 refine qb (fun _ k => XS.iloadN X0.here hx rfl (own_e hby d14 2 rfl) rfl k) ?_
 obtain ⟨_, T1, Lc1, X1, hQ1, st1⟩ := own_cS X0 hx hZ hown hml (rmmaxA l Z A0 hw [] p1 p2 h0 n0 Z0 hp_0) (hwd 96 rfl) (hwd 97 rfl) (hwd 98 rfl) (hwd 99 rfl) (by decide) pd_96 e0 (g := (mkF m 3 #[vI p0, vI p1, vI p2, .unset] [(.int p2), (.int p1), (.int p0)])) (rest := [(.int p0)]) rfl rfl rfl rfl (own_e hby d14 3 rfl) rfl
 obtain ⟨rfl, Nq1, eq1⟩ := hQ1
 have N1 := Fr.app N0 Nq1
 refine qb st1 ?_
 show qG p e below _ (T1.setTop (mkF m 6 #[vI p0, vI p1, vI p2, .unset] [(.int p1), (.int p0)]))
 refine qb (fun _ k => XS.iadd X1.here hx rfl (own_e hby d14 4 rfl) rfl k) ?_
 refine qb (fun _ k => XS.istoreN X1.here hx rfl (own_e hby d14 5 rfl) rfl (l' := #[vI p0, vI p1, vI p2, vI (p0 + p1)]) rfl k) ?_
 show qG p e below _ (T1.setTop (mkF m 8 #[vI p0, vI p1, vI p2, vI (p0 + p1)] []))
 refine qb (fun _ k => XS.iconst X1.here hx rfl (own_e hby d14 6 rfl) k) ?_
 refine qb (fun _ k => XS.iloadN X1.here hx rfl (own_e hby d14 7 rfl) rfl k) ?_
 refine qb (fun _ k => XS.icmpNo X1.here hx rfl (own_e hby d14 8 rfl) rfl (tlt ha10).2.1 k) ?_
 show qG p e below _ (T1.setTop (mkF m 13 #[vI p0, vI p1, vI p2, vI (p0 + p1)] []))
 refine qb (fun _ k => XS.iloadN X1.here hx rfl (own_e hby d14 9 rfl) rfl k) ?_
 refine qb (fun t k => X1.ldcInt hx hown (mvT hZ (hwd 100 rfl)) (g := (mkF m 14 #[vI p0, vI p1, vI p2, vI (p0 + p1)] [(.int (p0 + p1))])) rfl (own_e hby d14 10 rfl) _ k) ?_
 refine qb (fun _ k => XS.icmpNo X1.here hx rfl (own_e hby d14 11 rfl) rfl (flt ha16).2.2.1 k) ?_
 show qG p e below _ (T1.setTop (mkF m 19 #[vI p0, vI p1, vI p2, vI (p0 + p1)] []))
 refine qb (fun _ k => XS.iloadN X1.here hx rfl (own_e hby d14 12 rfl) rfl k) ?_
 exact own_retI X1 hx hrt (own_e hby d14 13 rfl) hlk eq1 ⟨rfl, N1, rfl⟩ (by decide) (by decide)
theorem d16 : own_ds jdk_65_method_121_code [(0, .iload_n 1, 1), (1, .aload_n 0, 1), (2, .arraylength, 1), (3, .if_icmp .ne 11, 3), (14, .iload_n 1, 1), (15, .newarray .byte, 2), (17, .astore_n 2, 1), (18, .aload_n 0, 1), (19, .iconst 0, 1), (20, .aload_n 2, 1), (21, .iconst 0, 1), (22, .aload_n 0, 1), (23, .arraylength, 1), (24, .iload_n 1, 1), (25, .invokestatic 304, 3), (28, .invokestatic 150, 3), (31, .aload_n 2, 1), (32, .areturn, 1)] = true := by decide +kernel
theorem pn_cof : plainName "java/util/Arrays" = true := by first | (simp [plainName, overriddenIn]; done) | decide +kernel
theorem ef_cof (m : MethodId) (a0 : Addr) (p1 : Int32) : entryFrame m #[(.ref a0), (.int p1)] 3 = mkF m 0 #[vR a0, vI p1, .unset] [] := rfl
def Qcof (Z : State) (k_a0 : ClassId) (n_a0 : Int32) (fn_a0 : Nat → Int32) (a0 : Addr) (p1 : Int32) (h0 : Heap) (n0 : Nat) (v : Option Value) (h : Heap) (L : List Loc) : Prop := ∃ (b2 : Addr) (k2 : ClassId), v = some (.ref b2) ∧ Fr n0 L ∧ Keep h0 h [] ∧ (n0 ≤ b2) ∧ (h0.size ≤ b2) ∧ Exa Z h b2 "[B" ∧ qA Z h b2 k2 .byte p1 (fun i => .int ((own_cp fn_a0 0 (fun _ => (0 : Int32)) 0 (n_a0).toNatClampNeg) i))
theorem rmcof (l : Launch) (Z : State) (A0 : Array Value) (hw : ∀ d ∈ tables_1, d.before A0 Z = true) (ws : List Jvm.Cond) (k_a0 : ClassId) (n_a0 : Int32) (fn_a0 : Nat → Int32) (a0 : Addr) (p1 : Int32) (h0 : Heap) (n0 : Nat) (Z0 : n0 ≤ h0.size) (P_V_a0 : qA Z h0 a0 k_a0 .byte n_a0 (fun i => .int (fn_a0 i))) (ha3 : ¬ (p1 = n_a0)) (hp_1 : ¬ (p1 < (0 : Int32))) (hp_2 : (p1).toNatClampNeg ≤ 96) (hp_3 : ¬ (p1 < n_a0)) (hp_4 : ¬ n_a0 < 0) (hp_5 : ((0 : Int32)).toNatClampNeg + (n_a0).toNatClampNeg ≤ (n_a0).toNatClampNeg) (hp_6 : ((0 : Int32)).toNatClampNeg + (n_a0).toNatClampNeg ≤ (p1).toNatClampNeg) :
  qM l Z (⟨"java/util/Arrays", "copyOf", "([BI)[B"⟩ : MethodName) jdk_65_method_121_code 3 (some (.array .byte)) ws ({ frames := 1, cells := 1, slots := 96, locals := 30 } : Room) #[(.ref a0), (.int p1)] h0 (Qcof Z k_a0 n_a0 fn_a0 a0 p1 h0 n0) 1 96 := own_enter (plainFor_of_name pn_cof) (fun m => ef_cof m a0 p1) fun p e s m below meth c s₁ hx hby hml hlk hown hnm X0 e0 hZ hrt => by
 have hwd := qw hw
 have N0 := Fr.nil n0
 show qG p e below _ (s₁.setTop (mkF m 0 #[vR a0, vI p1, .unset] []))
 refine qb (fun _ k => XS.iloadN X0.here hx rfl (own_e hby d16 0 rfl) rfl k) ?_
 refine qb (fun _ k => XS.aloadN X0.here hx rfl (own_e hby d16 1 rfl) rfl rfl k) ?_
 obtain ⟨cl1, Ar1, qq1, S1, M1, H1, G1⟩ := id P_V_a0
 refine qb (fun t k => X0.arraylength hx (by rw [e0]; exact Ar1.1) (State.isArrayOf_alike hZ.alike Ar1.2.1) (g := (mkF m 2 #[vR a0, vI p1, .unset] [(.ref a0), (.int p1)])) rfl rfl (own_e hby d16 2 rfl) _ k) ?_
 rw [len_of S1 M1]
 show qG p e below _ (s₁.setTop (mkF m 3 #[vR a0, vI p1, .unset] [(.int n_a0), (.int p1)]))
 refine qb (fun _ k => XS.icmpYes X0.here hx rfl (pc0 := 3) (pc' := 14) rfl (own_e hby d16 3 rfl) rfl (feq ha3).2 (by decide) (by decide) k) ?_
 show qG p e below _ (s₁.setTop (mkF m 14 #[vR a0, vI p1, .unset] []))
 refine qb (fun _ k => XS.iloadN X0.here hx rfl (own_e hby d16 4 rfl) rfl k) ?_
 obtain ⟨T2, h2, k2, X2, e2, E2, A2, Ax2, st2⟩ := newPE X0 hx hZ (hwd 3 rfl) e0 (g := (mkF m 15 #[vR a0, vI p1, .unset] [(.int p1)])) rfl (own_e hby d16 5 rfl) rfl hp_1 (cap := 96) hp_2 (by decide) (by decide) (by decide) (ad := "[B") (by decide)
 obtain ⟨b2, g2⟩ : ∃ z, z = h0.size := ⟨_, rfl⟩
 have ge_b2 : n0 ≤ b2 := ql Z0 (Nat.le_of_eq g2.symm)
 have sz_b2 := ql (Keep.refl h0 []).1 (Nat.le_of_eq g2.symm)
 have K2 : Keep h0 h2 [] := (Keep.refl h0 []).ext E2
 have Z2 := ql Z0 E2.1
 rw [← g2] at A2 Ax2 st2
 have V2 : qA Z h2 b2 k2 .byte p1 (fun i => .int ((fun _ => (0 : Int32)) i)) := own_arfNew A2 hp_1
 refine qb st2 ?_
 show qG p e below _ (T2.setTop (mkF m 17 #[vR a0, vI p1, .unset] [(.ref b2)]))
 refine qb (fun _ k => XS.astoreN X2.here hx rfl (own_e hby d16 6 rfl) rfl rfl (l' := #[vR a0, vI p1, vR b2]) rfl k) ?_
 show qG p e below _ (T2.setTop (mkF m 18 #[vR a0, vI p1, vR b2] []))
 refine qb (fun _ k => XS.aloadN X2.here hx rfl (own_e hby d16 7 rfl) rfl rfl k) ?_
 refine qb (fun _ k => XS.iconst X2.here hx rfl (own_e hby d16 8 rfl) k) ?_
 refine qb (fun _ k => XS.aloadN X2.here hx rfl (own_e hby d16 9 rfl) rfl rfl k) ?_
 refine qb (fun _ k => XS.iconst X2.here hx rfl (own_e hby d16 10 rfl) k) ?_
 refine qb (fun _ k => XS.aloadN X2.here hx rfl (own_e hby d16 11 rfl) rfl rfl k) ?_
 have F3 := (P_V_a0.ext E2)
 obtain ⟨cl4, Ar4, qq4, S4, M4, H4, G4⟩ := id F3
 refine qb (fun t k => X2.arraylength hx (by rw [e2]; exact Ar4.1) (State.isArrayOf_alike hZ.alike Ar4.2.1) (g := (mkF m 23 #[vR a0, vI p1, vR b2] [(.ref a0), (.int 0), (.ref b2), (.int 0), (.ref a0)])) rfl rfl (own_e hby d16 12 rfl) _ k) ?_
 rw [len_of S4 M4]
 show qG p e below _ (T2.setTop (mkF m 24 #[vR a0, vI p1, vR b2] [(.int n_a0), (.int 0), (.ref b2), (.int 0), (.ref a0)]))
 refine qb (fun _ k => XS.iloadN X2.here hx rfl (own_e hby d16 13 rfl) rfl k) ?_
 obtain ⟨_, T5, Lc5, X5, hQ5, st5⟩ := own_cS X2 hx hZ hown hml (rmminA l Z A0 hw [] n_a0 p1 h2 n0 Z2 hp_3) (hwd 106 rfl) (hwd 107 rfl) (hwd 98 rfl) (hwd 108 rfl) (by decide) pd_96 e2 (g := (mkF m 25 #[vR a0, vI p1, vR b2] [(.int p1), (.int n_a0), (.int 0), (.ref b2), (.int 0), (.ref a0)])) (rest := [(.int 0), (.ref b2), (.int 0), (.ref a0)]) rfl rfl rfl rfl (own_e hby d16 14 rfl) rfl
 obtain ⟨rfl, Nq5, eq5⟩ := hQ5
 have N5 := Fr.app N0 Nq5
 refine qb st5 ?_
 show qG p e below _ (T5.setTop (mkF m 28 #[vR a0, vI p1, vR b2] [(.int n_a0), (.int 0), (.ref b2), (.int 0), (.ref a0)]))
 obtain ⟨T6, h6, L6, X6, e6, N6, Kq6, V6, st6⟩ := own_cpA X5 hx hZ hown (hwd 109 rfl) (hwd 85 rfl) (hwd 83 rfl) (hwd 84 rfl) eq5 F3 V2 (by decide) (by decide) (by decide) hp_4 hp_5 hp_6 N5 ge_b2 (g := (mkF m 28 #[vR a0, vI p1, vR b2] [(.int n_a0), (.int 0), (.ref b2), (.int 0), (.ref a0)])) rfl (by rw [hml]; rfl) rfl (own_e hby d16 15 rfl) (by decide) (W := 0) (by show 2 * 0 + _ ≤ _; exact Nat.le_of_eq rfl) (by decide)
 have V6' : qA Z h6 b2 k2 .byte p1 (fun i => .int ((own_cp fn_a0 0 (fun _ => (0 : Int32)) 0 (n_a0).toNatClampNeg) i)) := by rw [← own_cpI]; exact V6
 have K6 : Keep h0 h6 [] := K2.trans Kq6 ((allS (Or.inr sz_b2) all0))
 have Z6 := ql Z2 Kq6.1
 refine qb st6 ?_
 show qG p e below _ (T6.setTop (mkF m 31 #[vR a0, vI p1, vR b2] []))
 refine qb (fun _ k => XS.aloadN X6.here hx rfl (own_e hby d16 16 rfl) rfl rfl k) ?_
 have F7 := (Ax2.keep Kq6)
 exact own_retR X6 hx hrt (by decide) rfl (own_e hby d16 17 rfl) hlk e6 ⟨_, _, rfl, N6, K6, ge_b2, sz_b2, F7, V6'⟩ (by decide) (by decide)
theorem d9 : own_ds jdk_68_method_9_code [(0, .aload_n 0, 1), (1, .getfield 15, 3), (4, .arraylength, 1), (5, .aload_n 0, 1), (6, .getfield 22, 3), (9, .ishr, 1), (10, .istore_n 2, 1), (11, .iload_n 1, 1), (12, .iload_n 2, 1), (13, .isub, 1), (14, .ifCond .le 24, 3), (17, .aload_n 0, 1), (18, .aload_n 0, 1), (19, .getfield 15, 3), (22, .aload_n 0, 1), (23, .iload_n 1, 1), (24, .invokevirtual 104, 3), (27, .aload_n 0, 1), (28, .getfield 22, 3), (31, .ishl, 1), (32, .invokestatic 108, 3), (35, .putfield 15, 3), (38, .return_, 1)] = true := by decide +kernel
theorem ef_ecN (m : MethodId) (a0 : Addr) (p1 : Int32) : entryFrame m #[(.ref a0), (.int p1)] 3 = mkF m 0 #[vR a0, vI p1, .unset] [] := rfl
def QecN (Z : State) (t_a0 : Addr) (c_a0 : Int32) (k_t_a0 : ClassId) (n_t_a0 : Int32) (fn_t_a0 : Nat → Int32) (a0 : Addr) (p1 : Int32) (h0 : Heap) (n0 : Nat) (v : Option Value) (h : Heap) (L : List Loc) : Prop := v = none ∧ Fr n0 L ∧ h = h0
theorem rmecN (l : Launch) (Z : State) (A0 : Array Value) (hw : ∀ d ∈ tables_1, d.before A0 Z = true) (ws : List Jvm.Cond) (t_a0 : Addr) (c_a0 : Int32) (k_t_a0 : ClassId) (n_t_a0 : Int32) (fn_t_a0 : Nat → Int32) (a0 : Addr) (p1 : Int32) (h0 : Heap) (n0 : Nat) (Z0 : n0 ≤ h0.size) (P_E_a0 : Exa Z h0 a0 "java/lang/StringBuilder") (P_F_a0_coder : Fld Z h0 a0 cA "coder" "B" (.int 0)) (P_F_a0_value : Fld Z h0 a0 cA "value" "[B" (.ref t_a0)) (P_F_a0_count : Fld Z h0 a0 cA "count" "I" (.int c_a0)) (P_V_t_a0 : qA Z h0 t_a0 k_t_a0 .byte n_t_a0 (fun i => .int (fn_t_a0 i))) (ha14 : ¬ ((0 : Int32) < (p1 - n_t_a0))) :
  qM l Z (⟨"java/lang/AbstractStringBuilder", "ensureCapacityInternal", "(I)V"⟩ : MethodName) jdk_68_method_9_code 3 none ws ({ frames := 0, cells := 0, slots := 0, locals := 0 } : Room) #[(.ref a0), (.int p1)] h0 (QecN Z t_a0 c_a0 k_t_a0 n_t_a0 fn_t_a0 a0 p1 h0 n0) 0 0 := own_enter (plainFor_of_name pn_isl0) (fun m => ef_ecN m a0 p1) fun p e s m below meth c s₁ hx hby hml hlk hown hnm X0 e0 hZ hrt => by
 have hwd := qw hw
 have N0 := Fr.nil n0
 show qG p e below _ (s₁.setTop (mkF m 0 #[vR a0, vI p1, .unset] []))
 refine qb (fun _ k => XS.aloadN X0.here hx rfl (own_e hby d9 0 rfl) rfl rfl k) ?_
 obtain ⟨T1, X1, e1, st1⟩ := getF X0 hx hZ hown (host := "") (Or.inl (hwd 32 rfl)) Via.refl e0 P_F_a0_value (g := (mkF m 1 #[vR a0, vI p1, .unset] [(.ref a0)])) rfl rfl (own_e hby d9 1 rfl)
 refine qb st1 ?_
 obtain ⟨cl2, Ar2, qq2, S2, M2, H2, G2⟩ := id P_V_t_a0
 refine qb (fun t k => X1.arraylength hx (by rw [e1]; exact Ar2.1) (State.isArrayOf_alike hZ.alike Ar2.2.1) (g := (mkF m 4 #[vR a0, vI p1, .unset] [(.ref t_a0)])) rfl rfl (own_e hby d9 2 rfl) _ k) ?_
 rw [len_of S2 M2]
 show qG p e below _ (T1.setTop (mkF m 5 #[vR a0, vI p1, .unset] [(.int n_t_a0)]))
 refine qb (fun _ k => XS.aloadN X1.here hx rfl (own_e hby d9 3 rfl) rfl rfl k) ?_
 obtain ⟨T3, X3, e3, st3⟩ := getF X1 hx hZ hown (host := "") (Or.inl (hwd 34 rfl)) Via.refl e1 P_F_a0_coder (g := (mkF m 6 #[vR a0, vI p1, .unset] [(.ref a0), (.int n_t_a0)])) rfl rfl (own_e hby d9 4 rfl)
 refine qb st3 ?_
 refine qb (fun _ k => XS.ishr X3.here hx rfl (own_e hby d9 5 rfl) rfl k) ?_
 show qG p e below _ (T3.setTop (mkF m 10 #[vR a0, vI p1, .unset] [(.int (n_t_a0 >>> ((0 : Int32) &&& 31)))]))
 rw [own_ishr0]
 show qG p e below _ (T3.setTop (mkF m 10 #[vR a0, vI p1, .unset] [(.int n_t_a0)]))
 refine qb (fun _ k => XS.istoreN X3.here hx rfl (own_e hby d9 6 rfl) rfl (l' := #[vR a0, vI p1, vI n_t_a0]) rfl k) ?_
 show qG p e below _ (T3.setTop (mkF m 11 #[vR a0, vI p1, vI n_t_a0] []))
 refine qb (fun _ k => XS.iloadN X3.here hx rfl (own_e hby d9 7 rfl) rfl k) ?_
 refine qb (fun _ k => XS.iloadN X3.here hx rfl (own_e hby d9 8 rfl) rfl k) ?_
 refine qb (fun _ k => XS.isub X3.here hx rfl (own_e hby d9 9 rfl) rfl k) ?_
 refine qb (fun _ k => XS.ifYes X3.here hx rfl (pc0 := 14) (pc' := 38) rfl (own_e hby d9 10 rfl) rfl ((if0 _ _).trans (flt ha14).2.2.2) (by decide) (by decide) k) ?_
 show qG p e below _ (T3.setTop (mkF m 38 #[vR a0, vI p1, vI n_t_a0] []))
 exact own_ret0 X3 hx hrt (own_e hby d9 22 rfl) hlk e3 ⟨rfl, N0, rfl⟩ (by decide) (by decide)
theorem d13 : own_ds jdk_68_method_10_code [(0, .aload_n 0, 1), (1, .getfield 15, 3), (4, .arraylength, 1), (5, .istore_n 2, 1), (6, .iload_n 1, 1), (7, .aload_n 0, 1), (8, .getfield 22, 3), (11, .ishl, 1), (12, .istore_n 3, 1), (13, .iload_n 3, 1), (14, .iload_n 2, 1), (15, .isub, 1), (16, .istore 4, 2), (18, .iload_n 2, 1), (19, .iload 4, 2), (21, .iload_n 2, 1), (22, .iconst 2, 1), (23, .aload_n 0, 1), (24, .getfield 22, 3), (27, .ishl, 1), (28, .iadd, 1), (29, .invokestatic 114, 3), (32, .istore 5, 2), (34, .iload 5, 2), (36, .ldc 39, 2), (38, .if_icmp .ne 13, 3), (51, .iload 5, 2), (53, .aload_n 0, 1), (54, .getfield 22, 3), (57, .ishr, 1), (58, .ireturn, 1)] = true := by decide +kernel
theorem ef_nc0 (m : MethodId) (a0 : Addr) (p1 : Int32) : entryFrame m #[(.ref a0), (.int p1)] 6 = mkF m 0 #[vR a0, vI p1, .unset, .unset, .unset, .unset] [] := rfl
def Qnc0 (Z : State) (t_a0 : Addr) (c_a0 : Int32) (k_t_a0 : ClassId) (n_t_a0 : Int32) (fn_t_a0 : Nat → Int32) (a0 : Addr) (p1 : Int32) (h0 : Heap) (n0 : Nat) (v : Option Value) (h : Heap) (L : List Loc) : Prop := v = some (.int (n_t_a0 + (p1 - n_t_a0))) ∧ Fr n0 L ∧ h = h0
theorem rmnc0 (l : Launch) (Z : State) (A0 : Array Value) (hw : ∀ d ∈ tables_1, d.before A0 Z = true) (ws : List Jvm.Cond) (t_a0 : Addr) (c_a0 : Int32) (k_t_a0 : ClassId) (n_t_a0 : Int32) (fn_t_a0 : Nat → Int32) (a0 : Addr) (p1 : Int32) (h0 : Heap) (n0 : Nat) (Z0 : n0 ≤ h0.size) (P_E_a0 : Exa Z h0 a0 "java/lang/StringBuilder") (P_F_a0_coder : Fld Z h0 a0 cA "coder" "B" (.int 0)) (P_F_a0_value : Fld Z h0 a0 cA "value" "[B" (.ref t_a0)) (P_F_a0_count : Fld Z h0 a0 cA "count" "I" (.int c_a0)) (P_V_t_a0 : qA Z h0 t_a0 k_t_a0 .byte n_t_a0 (fun i => .int (fn_t_a0 i))) (hp_0 : ¬ ((p1 - n_t_a0) < (n_t_a0 + (2 : Int32)))) (hp_1 : (0 : Int32) < (n_t_a0 + (p1 - n_t_a0))) (hp_2 : ¬ ((2147483639 : Int32) < (n_t_a0 + (p1 - n_t_a0)))) (hc38 : ¬ ((n_t_a0 + (p1 - n_t_a0)) = (2147483647 : Int32))) :
  qM l Z (⟨"java/lang/AbstractStringBuilder", "newCapacity", "(I)I"⟩ : MethodName) jdk_68_method_10_code 6 (some .int) ws ({ frames := 2, cells := 0, slots := 0, locals := 29 } : Room) #[(.ref a0), (.int p1)] h0 (Qnc0 Z t_a0 c_a0 k_t_a0 n_t_a0 fn_t_a0 a0 p1 h0 n0) 0 0 := own_enter (plainFor_of_name pn_isl0) (fun m => ef_nc0 m a0 p1) fun p e s m below meth c s₁ hx hby hml hlk hown hnm X0 e0 hZ hrt => by
 have hwd := qw hw
 have N0 := Fr.nil n0
 show qG p e below _ (s₁.setTop (mkF m 0 #[vR a0, vI p1, .unset, .unset, .unset, .unset] []))
 refine qb (fun _ k => XS.aloadN X0.here hx rfl (own_e hby d13 0 rfl) rfl rfl k) ?_
 obtain ⟨T1, X1, e1, st1⟩ := getF X0 hx hZ hown (host := "") (Or.inl (hwd 32 rfl)) Via.refl e0 P_F_a0_value (g := (mkF m 1 #[vR a0, vI p1, .unset, .unset, .unset, .unset] [(.ref a0)])) rfl rfl (own_e hby d13 1 rfl)
 refine qb st1 ?_
 obtain ⟨cl2, Ar2, qq2, S2, M2, H2, G2⟩ := id P_V_t_a0
 refine qb (fun t k => X1.arraylength hx (by rw [e1]; exact Ar2.1) (State.isArrayOf_alike hZ.alike Ar2.2.1) (g := (mkF m 4 #[vR a0, vI p1, .unset, .unset, .unset, .unset] [(.ref t_a0)])) rfl rfl (own_e hby d13 2 rfl) _ k) ?_
 rw [len_of S2 M2]
 show qG p e below _ (T1.setTop (mkF m 5 #[vR a0, vI p1, .unset, .unset, .unset, .unset] [(.int n_t_a0)]))
 refine qb (fun _ k => XS.istoreN X1.here hx rfl (own_e hby d13 3 rfl) rfl (l' := #[vR a0, vI p1, vI n_t_a0, .unset, .unset, .unset]) rfl k) ?_
 show qG p e below _ (T1.setTop (mkF m 6 #[vR a0, vI p1, vI n_t_a0, .unset, .unset, .unset] []))
 refine qb (fun _ k => XS.iloadN X1.here hx rfl (own_e hby d13 4 rfl) rfl k) ?_
 refine qb (fun _ k => XS.aloadN X1.here hx rfl (own_e hby d13 5 rfl) rfl rfl k) ?_
 obtain ⟨T3, X3, e3, st3⟩ := getF X1 hx hZ hown (host := "") (Or.inl (hwd 34 rfl)) Via.refl e1 P_F_a0_coder (g := (mkF m 8 #[vR a0, vI p1, vI n_t_a0, .unset, .unset, .unset] [(.ref a0), (.int p1)])) rfl rfl (own_e hby d13 6 rfl)
 refine qb st3 ?_
 refine qb (fun _ k => XS.ishl X3.here hx rfl (own_e hby d13 7 rfl) rfl k) ?_
 show qG p e below _ (T3.setTop (mkF m 12 #[vR a0, vI p1, vI n_t_a0, .unset, .unset, .unset] [(.int (p1 <<< ((0 : Int32) &&& 31)))]))
 rw [own_ishl0]
 show qG p e below _ (T3.setTop (mkF m 12 #[vR a0, vI p1, vI n_t_a0, .unset, .unset, .unset] [(.int p1)]))
 refine qb (fun _ k => XS.istoreN X3.here hx rfl (own_e hby d13 8 rfl) rfl (l' := #[vR a0, vI p1, vI n_t_a0, vI p1, .unset, .unset]) rfl k) ?_
 show qG p e below _ (T3.setTop (mkF m 13 #[vR a0, vI p1, vI n_t_a0, vI p1, .unset, .unset] []))
 refine qb (fun _ k => XS.iloadN X3.here hx rfl (own_e hby d13 9 rfl) rfl k) ?_
 refine qb (fun _ k => XS.iloadN X3.here hx rfl (own_e hby d13 10 rfl) rfl k) ?_
 refine qb (fun _ k => XS.isub X3.here hx rfl (own_e hby d13 11 rfl) rfl k) ?_
 refine qb (fun _ k => XS.istore X3.here hx rfl (own_e hby d13 12 rfl) rfl (l' := #[vR a0, vI p1, vI n_t_a0, vI p1, vI (p1 - n_t_a0), .unset]) rfl k) ?_
 show qG p e below _ (T3.setTop (mkF m 18 #[vR a0, vI p1, vI n_t_a0, vI p1, vI (p1 - n_t_a0), .unset] []))
 refine qb (fun _ k => XS.iloadN X3.here hx rfl (own_e hby d13 13 rfl) rfl k) ?_
 refine qb (fun _ k => XS.iload X3.here hx rfl (own_e hby d13 14 rfl) rfl k) ?_
 refine qb (fun _ k => XS.iloadN X3.here hx rfl (own_e hby d13 15 rfl) rfl k) ?_
 refine qb (fun _ k => XS.iconst X3.here hx rfl (own_e hby d13 16 rfl) k) ?_
 refine qb (fun _ k => XS.aloadN X3.here hx rfl (own_e hby d13 17 rfl) rfl rfl k) ?_
 obtain ⟨T4, X4, e4, st4⟩ := getF X3 hx hZ hown (host := "") (Or.inl (hwd 34 rfl)) Via.refl e3 P_F_a0_coder (g := (mkF m 24 #[vR a0, vI p1, vI n_t_a0, vI p1, vI (p1 - n_t_a0), .unset] [(.ref a0), (.int 2), (.int n_t_a0), (.int (p1 - n_t_a0)), (.int n_t_a0)])) rfl rfl (own_e hby d13 18 rfl)
 refine qb st4 ?_
 refine qb (fun _ k => XS.ishl X4.here hx rfl (own_e hby d13 19 rfl) rfl k) ?_
 refine qb (fun _ k => XS.iadd X4.here hx rfl (own_e hby d13 20 rfl) rfl k) ?_
 obtain ⟨_, T5, Lc5, X5, hQ5, st5⟩ := own_cS X4 hx hZ hown hml (rmnlen l Z A0 hw [] n_t_a0 (p1 - n_t_a0) (n_t_a0 + (2 : Int32)) h0 n0 Z0 hp_0 hp_1 hp_2) (hwd 92 rfl) (hwd 93 rfl) (hwd 94 rfl) (hwd 95 rfl) (by decide) pd_92 e4 (g := (mkF m 29 #[vR a0, vI p1, vI n_t_a0, vI p1, vI (p1 - n_t_a0), .unset] [(.int (n_t_a0 + (2 : Int32))), (.int (p1 - n_t_a0)), (.int n_t_a0)])) (rest := []) rfl rfl rfl rfl (own_e hby d13 21 rfl) rfl
 obtain ⟨rfl, Nq5, eq5⟩ := hQ5
 have N5 := Fr.app N0 Nq5
 refine qb st5 ?_
 show qG p e below _ (T5.setTop (mkF m 32 #[vR a0, vI p1, vI n_t_a0, vI p1, vI (p1 - n_t_a0), .unset] [(.int (n_t_a0 + (p1 - n_t_a0)))]))
 refine qb (fun _ k => XS.istore X5.here hx rfl (own_e hby d13 22 rfl) rfl (l' := #[vR a0, vI p1, vI n_t_a0, vI p1, vI (p1 - n_t_a0), vI (n_t_a0 + (p1 - n_t_a0))]) rfl k) ?_
 show qG p e below _ (T5.setTop (mkF m 34 #[vR a0, vI p1, vI n_t_a0, vI p1, vI (p1 - n_t_a0), vI (n_t_a0 + (p1 - n_t_a0))] []))
 refine qb (fun _ k => XS.iload X5.here hx rfl (own_e hby d13 23 rfl) rfl k) ?_
 refine qb (fun t k => X5.ldcInt hx hown (mvT hZ (hwd 101 rfl)) (g := (mkF m 36 #[vR a0, vI p1, vI n_t_a0, vI p1, vI (p1 - n_t_a0), vI (n_t_a0 + (p1 - n_t_a0))] [(.int (n_t_a0 + (p1 - n_t_a0)))])) rfl (own_e hby d13 24 rfl) _ k) ?_
 refine qb (fun _ k => XS.icmpYes X5.here hx rfl (pc0 := 38) (pc' := 51) rfl (own_e hby d13 25 rfl) rfl (feq hc38).2 (by decide) (by decide) k) ?_
 show qG p e below _ (T5.setTop (mkF m 51 #[vR a0, vI p1, vI n_t_a0, vI p1, vI (p1 - n_t_a0), vI (n_t_a0 + (p1 - n_t_a0))] []))
 refine qb (fun _ k => XS.iload X5.here hx rfl (own_e hby d13 26 rfl) rfl k) ?_
 refine qb (fun _ k => XS.aloadN X5.here hx rfl (own_e hby d13 27 rfl) rfl rfl k) ?_
 obtain ⟨T6, X6, e6, st6⟩ := getF X5 hx hZ hown (host := "") (Or.inl (hwd 34 rfl)) Via.refl eq5 P_F_a0_coder (g := (mkF m 54 #[vR a0, vI p1, vI n_t_a0, vI p1, vI (p1 - n_t_a0), vI (n_t_a0 + (p1 - n_t_a0))] [(.ref a0), (.int (n_t_a0 + (p1 - n_t_a0)))])) rfl rfl (own_e hby d13 28 rfl)
 refine qb st6 ?_
 refine qb (fun _ k => XS.ishr X6.here hx rfl (own_e hby d13 29 rfl) rfl k) ?_
 show qG p e below _ (T6.setTop (mkF m 58 #[vR a0, vI p1, vI n_t_a0, vI p1, vI (p1 - n_t_a0), vI (n_t_a0 + (p1 - n_t_a0))] [(.int ((n_t_a0 + (p1 - n_t_a0)) >>> ((0 : Int32) &&& 31)))]))
 rw [own_ishr0]
 show qG p e below _ (T6.setTop (mkF m 58 #[vR a0, vI p1, vI n_t_a0, vI p1, vI (p1 - n_t_a0), vI (n_t_a0 + (p1 - n_t_a0))] [(.int (n_t_a0 + (p1 - n_t_a0)))]))
 exact own_retI X6 hx hrt (own_e hby d13 30 rfl) hlk e6 ⟨rfl, N5, rfl⟩ (by decide) (by decide)
theorem pd_102 : parseMethodDescriptor "([BI)[B" = some ⟨[(.array .byte), .int], some (.array .byte)⟩ := by decide +kernel
theorem ef_ecG0 (m : MethodId) (a0 : Addr) (p1 : Int32) : entryFrame m #[(.ref a0), (.int p1)] 3 = mkF m 0 #[vR a0, vI p1, .unset] [] := rfl
def QecG0 (Z : State) (t_a0 : Addr) (c_a0 : Int32) (k_t_a0 : ClassId) (n_t_a0 : Int32) (fn_t_a0 : Nat → Int32) (a0 : Addr) (p1 f_a0_maybeLatin1 : Int32) (h0 : Heap) (n0 : Nat) (v : Option Value) (h : Heap) (L : List Loc) : Prop := ∃ (b8 : Addr) (b9 : ClassId), v = none ∧ Fr n0 L ∧ Keep h0 h [a0] ∧ Exa Z h a0 "java/lang/StringBuilder" ∧ Fld Z h a0 cA "coder" "B" (.int 0) ∧ Fld Z h a0 cA "value" "[B" (.ref b8) ∧ Fld Z h a0 cA "count" "I" (.int c_a0) ∧ Fld Z h a0 cA "maybeLatin1" "Z" (.int f_a0_maybeLatin1) ∧ (n0 ≤ b8) ∧ (h0.size ≤ b8) ∧ Exa Z h b8 "[B" ∧ qA Z h b8 b9 .byte (n_t_a0 + (p1 - n_t_a0)) (fun i => .int ((own_cp fn_t_a0 0 (fun _ => (0 : Int32)) 0 (n_t_a0).toNatClampNeg) i))
theorem rmecG0 (l : Launch) (Z : State) (A0 : Array Value) (hw : ∀ d ∈ tables_1, d.before A0 Z = true) (ws : List Jvm.Cond) (t_a0 : Addr) (c_a0 : Int32) (k_t_a0 : ClassId) (n_t_a0 : Int32) (fn_t_a0 : Nat → Int32) (a0 : Addr) (p1 f_a0_maybeLatin1 : Int32) (h0 : Heap) (n0 : Nat) (Z0 : n0 ≤ h0.size) (P_E_a0 : Exa Z h0 a0 "java/lang/StringBuilder") (P_F_a0_coder : Fld Z h0 a0 cA "coder" "B" (.int 0)) (P_F_a0_value : Fld Z h0 a0 cA "value" "[B" (.ref t_a0)) (P_F_a0_count : Fld Z h0 a0 cA "count" "I" (.int c_a0)) (P_V_t_a0 : qA Z h0 t_a0 k_t_a0 .byte n_t_a0 (fun i => .int (fn_t_a0 i))) (ha14 : (0 : Int32) < (p1 - n_t_a0)) (hp_1 : ¬ ((p1 - n_t_a0) < (n_t_a0 + (2 : Int32)))) (hp_2 : (0 : Int32) < (n_t_a0 + (p1 - n_t_a0))) (hp_3 : ¬ ((2147483639 : Int32) < (n_t_a0 + (p1 - n_t_a0)))) (hp_4 : ¬ ((n_t_a0 + (p1 - n_t_a0)) = (2147483647 : Int32))) (hp_5 : ¬ ((n_t_a0 + (p1 - n_t_a0)) = n_t_a0)) (hp_6 : ¬ ((n_t_a0 + (p1 - n_t_a0)) < (0 : Int32))) (hp_7 : ((n_t_a0 + (p1 - n_t_a0))).toNatClampNeg ≤ 96) (hp_8 : ¬ ((n_t_a0 + (p1 - n_t_a0)) < n_t_a0)) (hp_9 : ¬ n_t_a0 < 0) (hp_10 : 0 + (n_t_a0).toNatClampNeg ≤ (n_t_a0).toNatClampNeg) (hp_11 : 0 + (n_t_a0).toNatClampNeg ≤ ((n_t_a0 + (p1 - n_t_a0))).toNatClampNeg) (g_a0 : n0 ≤ a0) (P_F_a0_maybeLatin1 : Fld Z h0 a0 cA "maybeLatin1" "Z" (.int f_a0_maybeLatin1)) :
  qM l Z (⟨"java/lang/AbstractStringBuilder", "ensureCapacityInternal", "(I)V"⟩ : MethodName) jdk_68_method_9_code 3 none ws ({ frames := 3, cells := 1, slots := 96, locals := 48 } : Room) #[(.ref a0), (.int p1)] h0 (QecG0 Z t_a0 c_a0 k_t_a0 n_t_a0 fn_t_a0 a0 p1 f_a0_maybeLatin1 h0 n0) 1 96 := own_enter (plainFor_of_name pn_isl0) (fun m => ef_ecG0 m a0 p1) fun p e s m below meth c s₁ hx hby hml hlk hown hnm X0 e0 hZ hrt => by
 have hwd := qw hw
 have N0 := Fr.nil n0
 show qG p e below _ (s₁.setTop (mkF m 0 #[vR a0, vI p1, .unset] []))
 refine qb (fun _ k => XS.aloadN X0.here hx rfl (own_e hby d9 0 rfl) rfl rfl k) ?_
 obtain ⟨T1, X1, e1, st1⟩ := getF X0 hx hZ hown (host := "") (Or.inl (hwd 32 rfl)) Via.refl e0 P_F_a0_value (g := (mkF m 1 #[vR a0, vI p1, .unset] [(.ref a0)])) rfl rfl (own_e hby d9 1 rfl)
 refine qb st1 ?_
 obtain ⟨cl2, Ar2, qq2, S2, M2, H2, G2⟩ := id P_V_t_a0
 refine qb (fun t k => X1.arraylength hx (by rw [e1]; exact Ar2.1) (State.isArrayOf_alike hZ.alike Ar2.2.1) (g := (mkF m 4 #[vR a0, vI p1, .unset] [(.ref t_a0)])) rfl rfl (own_e hby d9 2 rfl) _ k) ?_
 rw [len_of S2 M2]
 show qG p e below _ (T1.setTop (mkF m 5 #[vR a0, vI p1, .unset] [(.int n_t_a0)]))
 refine qb (fun _ k => XS.aloadN X1.here hx rfl (own_e hby d9 3 rfl) rfl rfl k) ?_
 obtain ⟨T3, X3, e3, st3⟩ := getF X1 hx hZ hown (host := "") (Or.inl (hwd 34 rfl)) Via.refl e1 P_F_a0_coder (g := (mkF m 6 #[vR a0, vI p1, .unset] [(.ref a0), (.int n_t_a0)])) rfl rfl (own_e hby d9 4 rfl)
 refine qb st3 ?_
 refine qb (fun _ k => XS.ishr X3.here hx rfl (own_e hby d9 5 rfl) rfl k) ?_
 show qG p e below _ (T3.setTop (mkF m 10 #[vR a0, vI p1, .unset] [(.int (n_t_a0 >>> ((0 : Int32) &&& 31)))]))
 rw [own_ishr0]
 show qG p e below _ (T3.setTop (mkF m 10 #[vR a0, vI p1, .unset] [(.int n_t_a0)]))
 refine qb (fun _ k => XS.istoreN X3.here hx rfl (own_e hby d9 6 rfl) rfl (l' := #[vR a0, vI p1, vI n_t_a0]) rfl k) ?_
 show qG p e below _ (T3.setTop (mkF m 11 #[vR a0, vI p1, vI n_t_a0] []))
 refine qb (fun _ k => XS.iloadN X3.here hx rfl (own_e hby d9 7 rfl) rfl k) ?_
 refine qb (fun _ k => XS.iloadN X3.here hx rfl (own_e hby d9 8 rfl) rfl k) ?_
 refine qb (fun _ k => XS.isub X3.here hx rfl (own_e hby d9 9 rfl) rfl k) ?_
 refine qb (fun _ k => XS.ifNo X3.here hx rfl (own_e hby d9 10 rfl) rfl ((if0 _ _).trans (tlt ha14).2.2.2) k) ?_
 show qG p e below _ (T3.setTop (mkF m 17 #[vR a0, vI p1, vI n_t_a0] []))
 refine qb (fun _ k => XS.aloadN X3.here hx rfl (own_e hby d9 11 rfl) rfl rfl k) ?_
 refine qb (fun _ k => XS.aloadN X3.here hx rfl (own_e hby d9 12 rfl) rfl rfl k) ?_
 obtain ⟨T4, X4, e4, st4⟩ := getF X3 hx hZ hown (host := "") (Or.inl (hwd 32 rfl)) Via.refl e3 P_F_a0_value (g := (mkF m 19 #[vR a0, vI p1, vI n_t_a0] [(.ref a0), (.ref a0)])) rfl rfl (own_e hby d9 13 rfl)
 refine qb st4 ?_
 refine qb (fun _ k => XS.aloadN X4.here hx rfl (own_e hby d9 14 rfl) rfl rfl k) ?_
 refine qb (fun _ k => XS.iloadN X4.here hx rfl (own_e hby d9 15 rfl) rfl k) ?_
 obtain ⟨_, T5, Lc5, X5, hQ5, st5⟩ := own_cP X4 hx hZ hown hml (rmnc0 l Z A0 hw [] t_a0 c_a0 k_t_a0 n_t_a0 fn_t_a0 a0 p1 h0 n0 Z0 P_E_a0 P_F_a0_coder P_F_a0_value P_F_a0_count P_V_t_a0 hp_1 hp_2 hp_3 hp_4) (hwd 87 rfl) (hwd 88 rfl) (hwd 26 rfl) (hwd 91 rfl) (by decide) pd_87 e4 (hwd 89 rfl) (own_selPriv2 hZ (hwd 90 rfl) (hwd 89 rfl) (hwd 88 rfl) (by decide)) P_E_a0 (g := (mkF m 24 #[vR a0, vI p1, vI n_t_a0] [(.int p1), (.ref a0), (.ref t_a0), (.ref a0)])) (rest := [(.ref t_a0), (.ref a0)]) rfl rfl rfl rfl (own_e hby d9 16 rfl) rfl
 obtain ⟨rfl, Nq5, eq5⟩ := hQ5
 have N5 := Fr.app N0 Nq5
 refine qb st5 ?_
 show qG p e below _ (T5.setTop (mkF m 27 #[vR a0, vI p1, vI n_t_a0] [(.int (n_t_a0 + (p1 - n_t_a0))), (.ref t_a0), (.ref a0)]))
 refine qb (fun _ k => XS.aloadN X5.here hx rfl (own_e hby d9 17 rfl) rfl rfl k) ?_
 obtain ⟨T6, X6, e6, st6⟩ := getF X5 hx hZ hown (host := "") (Or.inl (hwd 34 rfl)) Via.refl eq5 P_F_a0_coder (g := (mkF m 28 #[vR a0, vI p1, vI n_t_a0] [(.ref a0), (.int (n_t_a0 + (p1 - n_t_a0))), (.ref t_a0), (.ref a0)])) rfl rfl (own_e hby d9 18 rfl)
 refine qb st6 ?_
 refine qb (fun _ k => XS.ishl X6.here hx rfl (own_e hby d9 19 rfl) rfl k) ?_
 show qG p e below _ (T6.setTop (mkF m 32 #[vR a0, vI p1, vI n_t_a0] [(.int ((n_t_a0 + (p1 - n_t_a0)) <<< ((0 : Int32) &&& 31))), (.ref t_a0), (.ref a0)]))
 rw [own_ishl0]
 show qG p e below _ (T6.setTop (mkF m 32 #[vR a0, vI p1, vI n_t_a0] [(.int (n_t_a0 + (p1 - n_t_a0))), (.ref t_a0), (.ref a0)]))
 obtain ⟨_, T7, Lc7, X7, hQ7, st7⟩ := own_cS X6 hx hZ hown hml (rmcof l Z A0 hw [] k_t_a0 n_t_a0 fn_t_a0 t_a0 (n_t_a0 + (p1 - n_t_a0)) h0 n0 Z0 P_V_t_a0 hp_5 hp_6 hp_7 hp_8 hp_9 hp_10 hp_11) (hwd 102 rfl) (hwd 103 rfl) (hwd 104 rfl) (hwd 105 rfl) (by decide) pd_102 e6 (g := (mkF m 32 #[vR a0, vI p1, vI n_t_a0] [(.int (n_t_a0 + (p1 - n_t_a0))), (.ref t_a0), (.ref a0)])) (rest := [(.ref a0)]) rfl rfl rfl rfl (own_e hby d9 20 rfl) rfl
 obtain ⟨b8, b9, rfl, Nq7, Kq7, hp10, hp11, F12, F13⟩ := hQ7
 have N7 := Fr.app N5 Nq7
 have K7 : Keep h0 T7.heap [a0] := (Keep.refl h0 [a0]).trans Kq7 (all0)
 have Z7 := ql Z0 Kq7.1
 have sz_b8 := ql (Keep.refl h0 [a0]).1 hp11
 refine qb st7 ?_
 show qG p e below _ (T7.setTop (mkF m 35 #[vR a0, vI p1, vI n_t_a0] [(.ref b8), (.ref a0)]))
 have F14 := (P_E_a0.keep Kq7)
 have F15 := (P_F_a0_value.keep Kq7 nin0)
 obtain ⟨T16, h16, X16, e16, W16, st16⟩ := putF X7 hx hZ hown (host := "") (Or.inl (hwd 32 rfl)) Via.refl rfl F15 F14 (Or.inl (hwd 33 rfl)) (hwd 17 rfl) (ty := (.array .byte)) (by decide) rfl rfl (g := (mkF m 35 #[vR a0, vI p1, vI n_t_a0] [(.ref b8), (.ref a0)])) rfl rfl (own_e hby d9 21 rfl)
 have Fw16 : Fld Z h16 a0 cA "value" "[B" (.ref b8) := F15.same W16
 have K16 : Keep h0 h16 [a0] := K7.wr W16 (Or.inl (List.mem_of_getElem? (i := 0) rfl))
 have Z16 := ql Z7 (Keep.of_wr W16).1
 have N16 := Fr.snoc X16 N7 g_a0
 refine qb st16 ?_
 show qG p e below _ (T16.setTop (mkF m 38 #[vR a0, vI p1, vI n_t_a0] []))
 have F17 := (F14.wr W16)
 have F18 := ((P_F_a0_coder.keep Kq7 nin0).other W16 (Or.inr (slot_ne (Or.inl (hwd 35 rfl)) (Or.inl (hwd 33 rfl)) (by decide) (t := .byte) (t' := (.array .byte)) (by decide) (by decide))))
 have F19 := ((P_F_a0_count.keep Kq7 nin0).other W16 (Or.inr (slot_ne (Or.inl (hwd 60 rfl)) (Or.inl (hwd 33 rfl)) (by decide) (t := .int) (t' := (.array .byte)) (by decide) (by decide))))
 have F20 := ((P_F_a0_maybeLatin1.keep Kq7 nin0).other W16 (Or.inr (slot_ne (Or.inl (hwd 299 rfl)) (Or.inl (hwd 33 rfl)) (by decide) (t := .boolean) (t' := (.array .byte)) (by decide) (by decide))))
 have F21 := (F12.wr W16)
 have F22 := (F13.other W16 (qm P_E_a0.lt hp11))
 exact own_ret0 X16 hx hrt (own_e hby d9 22 rfl) hlk e16 ⟨_, _, rfl, N16, K16, F17, F18, Fw16, F19, F20, hp10, sz_b8, F21, F22⟩ (by decide) (by decide)
theorem ef_nc1 (m : MethodId) (a0 : Addr) (p1 : Int32) : entryFrame m #[(.ref a0), (.int p1)] 6 = mkF m 0 #[vR a0, vI p1, .unset, .unset, .unset, .unset] [] := rfl
def Qnc1 (Z : State) (t_a0 : Addr) (c_a0 : Int32) (k_t_a0 : ClassId) (n_t_a0 : Int32) (fn_t_a0 : Nat → Int32) (a0 : Addr) (p1 : Int32) (h0 : Heap) (n0 : Nat) (v : Option Value) (h : Heap) (L : List Loc) : Prop := v = some (.int ((n_t_a0 + ((p1 <<< ((1 : Int32) &&& 31)) - n_t_a0)) >>> ((1 : Int32) &&& 31))) ∧ Fr n0 L ∧ h = h0
theorem rmnc1 (l : Launch) (Z : State) (A0 : Array Value) (hw : ∀ d ∈ tables_1, d.before A0 Z = true) (ws : List Jvm.Cond) (t_a0 : Addr) (c_a0 : Int32) (k_t_a0 : ClassId) (n_t_a0 : Int32) (fn_t_a0 : Nat → Int32) (a0 : Addr) (p1 : Int32) (h0 : Heap) (n0 : Nat) (Z0 : n0 ≤ h0.size) (P_E_a0 : Exa Z h0 a0 "java/lang/StringBuilder") (P_F_a0_coder : Fld Z h0 a0 cA "coder" "B" (.int 1)) (P_F_a0_value : Fld Z h0 a0 cA "value" "[B" (.ref t_a0)) (P_F_a0_count : Fld Z h0 a0 cA "count" "I" (.int c_a0)) (P_V_t_a0 : qA Z h0 t_a0 k_t_a0 .byte n_t_a0 (fun i => .int (fn_t_a0 i))) (hp_0 : ¬ (((p1 <<< ((1 : Int32) &&& 31)) - n_t_a0) < (n_t_a0 + (4 : Int32)))) (hp_1 : (0 : Int32) < (n_t_a0 + ((p1 <<< ((1 : Int32) &&& 31)) - n_t_a0))) (hp_2 : ¬ ((2147483639 : Int32) < (n_t_a0 + ((p1 <<< ((1 : Int32) &&& 31)) - n_t_a0)))) (hc38 : ¬ ((n_t_a0 + ((p1 <<< ((1 : Int32) &&& 31)) - n_t_a0)) = (2147483647 : Int32))) :
  qM l Z (⟨"java/lang/AbstractStringBuilder", "newCapacity", "(I)I"⟩ : MethodName) jdk_68_method_10_code 6 (some .int) ws ({ frames := 2, cells := 0, slots := 0, locals := 29 } : Room) #[(.ref a0), (.int p1)] h0 (Qnc1 Z t_a0 c_a0 k_t_a0 n_t_a0 fn_t_a0 a0 p1 h0 n0) 0 0 := own_enter (plainFor_of_name pn_isl0) (fun m => ef_nc1 m a0 p1) fun p e s m below meth c s₁ hx hby hml hlk hown hnm X0 e0 hZ hrt => by
 have hwd := qw hw
 have N0 := Fr.nil n0
 show qG p e below _ (s₁.setTop (mkF m 0 #[vR a0, vI p1, .unset, .unset, .unset, .unset] []))
 refine qb (fun _ k => XS.aloadN X0.here hx rfl (own_e hby d13 0 rfl) rfl rfl k) ?_
 obtain ⟨T1, X1, e1, st1⟩ := getF X0 hx hZ hown (host := "") (Or.inl (hwd 32 rfl)) Via.refl e0 P_F_a0_value (g := (mkF m 1 #[vR a0, vI p1, .unset, .unset, .unset, .unset] [(.ref a0)])) rfl rfl (own_e hby d13 1 rfl)
 refine qb st1 ?_
 obtain ⟨cl2, Ar2, qq2, S2, M2, H2, G2⟩ := id P_V_t_a0
 refine qb (fun t k => X1.arraylength hx (by rw [e1]; exact Ar2.1) (State.isArrayOf_alike hZ.alike Ar2.2.1) (g := (mkF m 4 #[vR a0, vI p1, .unset, .unset, .unset, .unset] [(.ref t_a0)])) rfl rfl (own_e hby d13 2 rfl) _ k) ?_
 rw [len_of S2 M2]
 show qG p e below _ (T1.setTop (mkF m 5 #[vR a0, vI p1, .unset, .unset, .unset, .unset] [(.int n_t_a0)]))
 refine qb (fun _ k => XS.istoreN X1.here hx rfl (own_e hby d13 3 rfl) rfl (l' := #[vR a0, vI p1, vI n_t_a0, .unset, .unset, .unset]) rfl k) ?_
 show qG p e below _ (T1.setTop (mkF m 6 #[vR a0, vI p1, vI n_t_a0, .unset, .unset, .unset] []))
 refine qb (fun _ k => XS.iloadN X1.here hx rfl (own_e hby d13 4 rfl) rfl k) ?_
 refine qb (fun _ k => XS.aloadN X1.here hx rfl (own_e hby d13 5 rfl) rfl rfl k) ?_
 obtain ⟨T3, X3, e3, st3⟩ := getF X1 hx hZ hown (host := "") (Or.inl (hwd 34 rfl)) Via.refl e1 P_F_a0_coder (g := (mkF m 8 #[vR a0, vI p1, vI n_t_a0, .unset, .unset, .unset] [(.ref a0), (.int p1)])) rfl rfl (own_e hby d13 6 rfl)
 refine qb st3 ?_
 refine qb (fun _ k => XS.ishl X3.here hx rfl (own_e hby d13 7 rfl) rfl k) ?_
 refine qb (fun _ k => XS.istoreN X3.here hx rfl (own_e hby d13 8 rfl) rfl (l' := #[vR a0, vI p1, vI n_t_a0, vI (p1 <<< ((1 : Int32) &&& 31)), .unset, .unset]) rfl k) ?_
 show qG p e below _ (T3.setTop (mkF m 13 #[vR a0, vI p1, vI n_t_a0, vI (p1 <<< ((1 : Int32) &&& 31)), .unset, .unset] []))
 refine qb (fun _ k => XS.iloadN X3.here hx rfl (own_e hby d13 9 rfl) rfl k) ?_
 refine qb (fun _ k => XS.iloadN X3.here hx rfl (own_e hby d13 10 rfl) rfl k) ?_
 refine qb (fun _ k => XS.isub X3.here hx rfl (own_e hby d13 11 rfl) rfl k) ?_
 refine qb (fun _ k => XS.istore X3.here hx rfl (own_e hby d13 12 rfl) rfl (l' := #[vR a0, vI p1, vI n_t_a0, vI (p1 <<< ((1 : Int32) &&& 31)), vI ((p1 <<< ((1 : Int32) &&& 31)) - n_t_a0), .unset]) rfl k) ?_
 show qG p e below _ (T3.setTop (mkF m 18 #[vR a0, vI p1, vI n_t_a0, vI (p1 <<< ((1 : Int32) &&& 31)), vI ((p1 <<< ((1 : Int32) &&& 31)) - n_t_a0), .unset] []))
 refine qb (fun _ k => XS.iloadN X3.here hx rfl (own_e hby d13 13 rfl) rfl k) ?_
 refine qb (fun _ k => XS.iload X3.here hx rfl (own_e hby d13 14 rfl) rfl k) ?_
 refine qb (fun _ k => XS.iloadN X3.here hx rfl (own_e hby d13 15 rfl) rfl k) ?_
 refine qb (fun _ k => XS.iconst X3.here hx rfl (own_e hby d13 16 rfl) k) ?_
 refine qb (fun _ k => XS.aloadN X3.here hx rfl (own_e hby d13 17 rfl) rfl rfl k) ?_
 obtain ⟨T4, X4, e4, st4⟩ := getF X3 hx hZ hown (host := "") (Or.inl (hwd 34 rfl)) Via.refl e3 P_F_a0_coder (g := (mkF m 24 #[vR a0, vI p1, vI n_t_a0, vI (p1 <<< ((1 : Int32) &&& 31)), vI ((p1 <<< ((1 : Int32) &&& 31)) - n_t_a0), .unset] [(.ref a0), (.int 2), (.int n_t_a0), (.int ((p1 <<< ((1 : Int32) &&& 31)) - n_t_a0)), (.int n_t_a0)])) rfl rfl (own_e hby d13 18 rfl)
 refine qb st4 ?_
 refine qb (fun _ k => XS.ishl X4.here hx rfl (own_e hby d13 19 rfl) rfl k) ?_
 refine qb (fun _ k => XS.iadd X4.here hx rfl (own_e hby d13 20 rfl) rfl k) ?_
 obtain ⟨_, T5, Lc5, X5, hQ5, st5⟩ := own_cS X4 hx hZ hown hml (rmnlen l Z A0 hw [] n_t_a0 ((p1 <<< ((1 : Int32) &&& 31)) - n_t_a0) (n_t_a0 + (4 : Int32)) h0 n0 Z0 hp_0 hp_1 hp_2) (hwd 92 rfl) (hwd 93 rfl) (hwd 94 rfl) (hwd 95 rfl) (by decide) pd_92 e4 (g := (mkF m 29 #[vR a0, vI p1, vI n_t_a0, vI (p1 <<< ((1 : Int32) &&& 31)), vI ((p1 <<< ((1 : Int32) &&& 31)) - n_t_a0), .unset] [(.int (n_t_a0 + (4 : Int32))), (.int ((p1 <<< ((1 : Int32) &&& 31)) - n_t_a0)), (.int n_t_a0)])) (rest := []) rfl rfl rfl rfl (own_e hby d13 21 rfl) rfl
 obtain ⟨rfl, Nq5, eq5⟩ := hQ5
 have N5 := Fr.app N0 Nq5
 refine qb st5 ?_
 show qG p e below _ (T5.setTop (mkF m 32 #[vR a0, vI p1, vI n_t_a0, vI (p1 <<< ((1 : Int32) &&& 31)), vI ((p1 <<< ((1 : Int32) &&& 31)) - n_t_a0), .unset] [(.int (n_t_a0 + ((p1 <<< ((1 : Int32) &&& 31)) - n_t_a0)))]))
 refine qb (fun _ k => XS.istore X5.here hx rfl (own_e hby d13 22 rfl) rfl (l' := #[vR a0, vI p1, vI n_t_a0, vI (p1 <<< ((1 : Int32) &&& 31)), vI ((p1 <<< ((1 : Int32) &&& 31)) - n_t_a0), vI (n_t_a0 + ((p1 <<< ((1 : Int32) &&& 31)) - n_t_a0))]) rfl k) ?_
 show qG p e below _ (T5.setTop (mkF m 34 #[vR a0, vI p1, vI n_t_a0, vI (p1 <<< ((1 : Int32) &&& 31)), vI ((p1 <<< ((1 : Int32) &&& 31)) - n_t_a0), vI (n_t_a0 + ((p1 <<< ((1 : Int32) &&& 31)) - n_t_a0))] []))
 refine qb (fun _ k => XS.iload X5.here hx rfl (own_e hby d13 23 rfl) rfl k) ?_
 refine qb (fun t k => X5.ldcInt hx hown (mvT hZ (hwd 101 rfl)) (g := (mkF m 36 #[vR a0, vI p1, vI n_t_a0, vI (p1 <<< ((1 : Int32) &&& 31)), vI ((p1 <<< ((1 : Int32) &&& 31)) - n_t_a0), vI (n_t_a0 + ((p1 <<< ((1 : Int32) &&& 31)) - n_t_a0))] [(.int (n_t_a0 + ((p1 <<< ((1 : Int32) &&& 31)) - n_t_a0)))])) rfl (own_e hby d13 24 rfl) _ k) ?_
 refine qb (fun _ k => XS.icmpYes X5.here hx rfl (pc0 := 38) (pc' := 51) rfl (own_e hby d13 25 rfl) rfl (feq hc38).2 (by decide) (by decide) k) ?_
 show qG p e below _ (T5.setTop (mkF m 51 #[vR a0, vI p1, vI n_t_a0, vI (p1 <<< ((1 : Int32) &&& 31)), vI ((p1 <<< ((1 : Int32) &&& 31)) - n_t_a0), vI (n_t_a0 + ((p1 <<< ((1 : Int32) &&& 31)) - n_t_a0))] []))
 refine qb (fun _ k => XS.iload X5.here hx rfl (own_e hby d13 26 rfl) rfl k) ?_
 refine qb (fun _ k => XS.aloadN X5.here hx rfl (own_e hby d13 27 rfl) rfl rfl k) ?_
 obtain ⟨T6, X6, e6, st6⟩ := getF X5 hx hZ hown (host := "") (Or.inl (hwd 34 rfl)) Via.refl eq5 P_F_a0_coder (g := (mkF m 54 #[vR a0, vI p1, vI n_t_a0, vI (p1 <<< ((1 : Int32) &&& 31)), vI ((p1 <<< ((1 : Int32) &&& 31)) - n_t_a0), vI (n_t_a0 + ((p1 <<< ((1 : Int32) &&& 31)) - n_t_a0))] [(.ref a0), (.int (n_t_a0 + ((p1 <<< ((1 : Int32) &&& 31)) - n_t_a0)))])) rfl rfl (own_e hby d13 28 rfl)
 refine qb st6 ?_
 refine qb (fun _ k => XS.ishr X6.here hx rfl (own_e hby d13 29 rfl) rfl k) ?_
 exact own_retI X6 hx hrt (own_e hby d13 30 rfl) hlk e6 ⟨rfl, N5, rfl⟩ (by decide) (by decide)
theorem ef_ecG1 (m : MethodId) (a0 : Addr) (p1 : Int32) : entryFrame m #[(.ref a0), (.int p1)] 3 = mkF m 0 #[vR a0, vI p1, .unset] [] := rfl
def QecG1 (Z : State) (t_a0 : Addr) (c_a0 : Int32) (k_t_a0 : ClassId) (n_t_a0 : Int32) (fn_t_a0 : Nat → Int32) (a0 : Addr) (p1 f_a0_maybeLatin1 : Int32) (h0 : Heap) (n0 : Nat) (v : Option Value) (h : Heap) (L : List Loc) : Prop := ∃ (b8 : Addr) (b9 : ClassId), v = none ∧ Fr n0 L ∧ Keep h0 h [a0] ∧ Exa Z h a0 "java/lang/StringBuilder" ∧ Fld Z h a0 cA "coder" "B" (.int 1) ∧ Fld Z h a0 cA "value" "[B" (.ref b8) ∧ Fld Z h a0 cA "count" "I" (.int c_a0) ∧ Fld Z h a0 cA "maybeLatin1" "Z" (.int f_a0_maybeLatin1) ∧ (n0 ≤ b8) ∧ (h0.size ≤ b8) ∧ Exa Z h b8 "[B" ∧ qA Z h b8 b9 .byte (((n_t_a0 + ((p1 <<< ((1 : Int32) &&& 31)) - n_t_a0)) >>> ((1 : Int32) &&& 31)) <<< ((1 : Int32) &&& 31)) (fun i => .int ((own_cp fn_t_a0 0 (fun _ => (0 : Int32)) 0 (n_t_a0).toNatClampNeg) i))
theorem rmecG1 (l : Launch) (Z : State) (A0 : Array Value) (hw : ∀ d ∈ tables_1, d.before A0 Z = true) (ws : List Jvm.Cond) (t_a0 : Addr) (c_a0 : Int32) (k_t_a0 : ClassId) (n_t_a0 : Int32) (fn_t_a0 : Nat → Int32) (a0 : Addr) (p1 f_a0_maybeLatin1 : Int32) (h0 : Heap) (n0 : Nat) (Z0 : n0 ≤ h0.size) (P_E_a0 : Exa Z h0 a0 "java/lang/StringBuilder") (P_F_a0_coder : Fld Z h0 a0 cA "coder" "B" (.int 1)) (P_F_a0_value : Fld Z h0 a0 cA "value" "[B" (.ref t_a0)) (P_F_a0_count : Fld Z h0 a0 cA "count" "I" (.int c_a0)) (P_V_t_a0 : qA Z h0 t_a0 k_t_a0 .byte n_t_a0 (fun i => .int (fn_t_a0 i))) (ha14 : (0 : Int32) < (p1 - (n_t_a0 >>> ((1 : Int32) &&& 31)))) (hp_1 : ¬ (((p1 <<< ((1 : Int32) &&& 31)) - n_t_a0) < (n_t_a0 + (4 : Int32)))) (hp_2 : (0 : Int32) < (n_t_a0 + ((p1 <<< ((1 : Int32) &&& 31)) - n_t_a0))) (hp_3 : ¬ ((2147483639 : Int32) < (n_t_a0 + ((p1 <<< ((1 : Int32) &&& 31)) - n_t_a0)))) (hp_4 : ¬ ((n_t_a0 + ((p1 <<< ((1 : Int32) &&& 31)) - n_t_a0)) = (2147483647 : Int32))) (hp_5 : ¬ ((((n_t_a0 + ((p1 <<< ((1 : Int32) &&& 31)) - n_t_a0)) >>> ((1 : Int32) &&& 31)) <<< ((1 : Int32) &&& 31)) = n_t_a0)) (hp_6 : ¬ ((((n_t_a0 + ((p1 <<< ((1 : Int32) &&& 31)) - n_t_a0)) >>> ((1 : Int32) &&& 31)) <<< ((1 : Int32) &&& 31)) < (0 : Int32))) (hp_7 : ((((n_t_a0 + ((p1 <<< ((1 : Int32) &&& 31)) - n_t_a0)) >>> ((1 : Int32) &&& 31)) <<< ((1 : Int32) &&& 31))).toNatClampNeg ≤ 96) (hp_8 : ¬ ((((n_t_a0 + ((p1 <<< ((1 : Int32) &&& 31)) - n_t_a0)) >>> ((1 : Int32) &&& 31)) <<< ((1 : Int32) &&& 31)) < n_t_a0)) (hp_9 : ¬ n_t_a0 < 0) (hp_10 : 0 + (n_t_a0).toNatClampNeg ≤ (n_t_a0).toNatClampNeg) (hp_11 : 0 + (n_t_a0).toNatClampNeg ≤ ((((n_t_a0 + ((p1 <<< ((1 : Int32) &&& 31)) - n_t_a0)) >>> ((1 : Int32) &&& 31)) <<< ((1 : Int32) &&& 31))).toNatClampNeg) (g_a0 : n0 ≤ a0) (P_F_a0_maybeLatin1 : Fld Z h0 a0 cA "maybeLatin1" "Z" (.int f_a0_maybeLatin1)) :
  qM l Z (⟨"java/lang/AbstractStringBuilder", "ensureCapacityInternal", "(I)V"⟩ : MethodName) jdk_68_method_9_code 3 none ws ({ frames := 3, cells := 1, slots := 96, locals := 48 } : Room) #[(.ref a0), (.int p1)] h0 (QecG1 Z t_a0 c_a0 k_t_a0 n_t_a0 fn_t_a0 a0 p1 f_a0_maybeLatin1 h0 n0) 1 96 := own_enter (plainFor_of_name pn_isl0) (fun m => ef_ecG1 m a0 p1) fun p e s m below meth c s₁ hx hby hml hlk hown hnm X0 e0 hZ hrt => by
 have hwd := qw hw
 have N0 := Fr.nil n0
 show qG p e below _ (s₁.setTop (mkF m 0 #[vR a0, vI p1, .unset] []))
 refine qb (fun _ k => XS.aloadN X0.here hx rfl (own_e hby d9 0 rfl) rfl rfl k) ?_
 obtain ⟨T1, X1, e1, st1⟩ := getF X0 hx hZ hown (host := "") (Or.inl (hwd 32 rfl)) Via.refl e0 P_F_a0_value (g := (mkF m 1 #[vR a0, vI p1, .unset] [(.ref a0)])) rfl rfl (own_e hby d9 1 rfl)
 refine qb st1 ?_
 obtain ⟨cl2, Ar2, qq2, S2, M2, H2, G2⟩ := id P_V_t_a0
 refine qb (fun t k => X1.arraylength hx (by rw [e1]; exact Ar2.1) (State.isArrayOf_alike hZ.alike Ar2.2.1) (g := (mkF m 4 #[vR a0, vI p1, .unset] [(.ref t_a0)])) rfl rfl (own_e hby d9 2 rfl) _ k) ?_
 rw [len_of S2 M2]
 show qG p e below _ (T1.setTop (mkF m 5 #[vR a0, vI p1, .unset] [(.int n_t_a0)]))
 refine qb (fun _ k => XS.aloadN X1.here hx rfl (own_e hby d9 3 rfl) rfl rfl k) ?_
 obtain ⟨T3, X3, e3, st3⟩ := getF X1 hx hZ hown (host := "") (Or.inl (hwd 34 rfl)) Via.refl e1 P_F_a0_coder (g := (mkF m 6 #[vR a0, vI p1, .unset] [(.ref a0), (.int n_t_a0)])) rfl rfl (own_e hby d9 4 rfl)
 refine qb st3 ?_
 refine qb (fun _ k => XS.ishr X3.here hx rfl (own_e hby d9 5 rfl) rfl k) ?_
 refine qb (fun _ k => XS.istoreN X3.here hx rfl (own_e hby d9 6 rfl) rfl (l' := #[vR a0, vI p1, vI (n_t_a0 >>> ((1 : Int32) &&& 31))]) rfl k) ?_
 show qG p e below _ (T3.setTop (mkF m 11 #[vR a0, vI p1, vI (n_t_a0 >>> ((1 : Int32) &&& 31))] []))
 refine qb (fun _ k => XS.iloadN X3.here hx rfl (own_e hby d9 7 rfl) rfl k) ?_
 refine qb (fun _ k => XS.iloadN X3.here hx rfl (own_e hby d9 8 rfl) rfl k) ?_
 refine qb (fun _ k => XS.isub X3.here hx rfl (own_e hby d9 9 rfl) rfl k) ?_
 refine qb (fun _ k => XS.ifNo X3.here hx rfl (own_e hby d9 10 rfl) rfl ((if0 _ _).trans (tlt ha14).2.2.2) k) ?_
 show qG p e below _ (T3.setTop (mkF m 17 #[vR a0, vI p1, vI (n_t_a0 >>> ((1 : Int32) &&& 31))] []))
 refine qb (fun _ k => XS.aloadN X3.here hx rfl (own_e hby d9 11 rfl) rfl rfl k) ?_
 refine qb (fun _ k => XS.aloadN X3.here hx rfl (own_e hby d9 12 rfl) rfl rfl k) ?_
 obtain ⟨T4, X4, e4, st4⟩ := getF X3 hx hZ hown (host := "") (Or.inl (hwd 32 rfl)) Via.refl e3 P_F_a0_value (g := (mkF m 19 #[vR a0, vI p1, vI (n_t_a0 >>> ((1 : Int32) &&& 31))] [(.ref a0), (.ref a0)])) rfl rfl (own_e hby d9 13 rfl)
 refine qb st4 ?_
 refine qb (fun _ k => XS.aloadN X4.here hx rfl (own_e hby d9 14 rfl) rfl rfl k) ?_
 refine qb (fun _ k => XS.iloadN X4.here hx rfl (own_e hby d9 15 rfl) rfl k) ?_
 obtain ⟨_, T5, Lc5, X5, hQ5, st5⟩ := own_cP X4 hx hZ hown hml (rmnc1 l Z A0 hw [] t_a0 c_a0 k_t_a0 n_t_a0 fn_t_a0 a0 p1 h0 n0 Z0 P_E_a0 P_F_a0_coder P_F_a0_value P_F_a0_count P_V_t_a0 hp_1 hp_2 hp_3 hp_4) (hwd 87 rfl) (hwd 88 rfl) (hwd 26 rfl) (hwd 91 rfl) (by decide) pd_87 e4 (hwd 89 rfl) (own_selPriv2 hZ (hwd 90 rfl) (hwd 89 rfl) (hwd 88 rfl) (by decide)) P_E_a0 (g := (mkF m 24 #[vR a0, vI p1, vI (n_t_a0 >>> ((1 : Int32) &&& 31))] [(.int p1), (.ref a0), (.ref t_a0), (.ref a0)])) (rest := [(.ref t_a0), (.ref a0)]) rfl rfl rfl rfl (own_e hby d9 16 rfl) rfl
 obtain ⟨rfl, Nq5, eq5⟩ := hQ5
 have N5 := Fr.app N0 Nq5
 refine qb st5 ?_
 show qG p e below _ (T5.setTop (mkF m 27 #[vR a0, vI p1, vI (n_t_a0 >>> ((1 : Int32) &&& 31))] [(.int ((n_t_a0 + ((p1 <<< ((1 : Int32) &&& 31)) - n_t_a0)) >>> ((1 : Int32) &&& 31))), (.ref t_a0), (.ref a0)]))
 refine qb (fun _ k => XS.aloadN X5.here hx rfl (own_e hby d9 17 rfl) rfl rfl k) ?_
 obtain ⟨T6, X6, e6, st6⟩ := getF X5 hx hZ hown (host := "") (Or.inl (hwd 34 rfl)) Via.refl eq5 P_F_a0_coder (g := (mkF m 28 #[vR a0, vI p1, vI (n_t_a0 >>> ((1 : Int32) &&& 31))] [(.ref a0), (.int ((n_t_a0 + ((p1 <<< ((1 : Int32) &&& 31)) - n_t_a0)) >>> ((1 : Int32) &&& 31))), (.ref t_a0), (.ref a0)])) rfl rfl (own_e hby d9 18 rfl)
 refine qb st6 ?_
 refine qb (fun _ k => XS.ishl X6.here hx rfl (own_e hby d9 19 rfl) rfl k) ?_
 obtain ⟨_, T7, Lc7, X7, hQ7, st7⟩ := own_cS X6 hx hZ hown hml (rmcof l Z A0 hw [] k_t_a0 n_t_a0 fn_t_a0 t_a0 (((n_t_a0 + ((p1 <<< ((1 : Int32) &&& 31)) - n_t_a0)) >>> ((1 : Int32) &&& 31)) <<< ((1 : Int32) &&& 31)) h0 n0 Z0 P_V_t_a0 hp_5 hp_6 hp_7 hp_8 hp_9 hp_10 hp_11) (hwd 102 rfl) (hwd 103 rfl) (hwd 104 rfl) (hwd 105 rfl) (by decide) pd_102 e6 (g := (mkF m 32 #[vR a0, vI p1, vI (n_t_a0 >>> ((1 : Int32) &&& 31))] [(.int (((n_t_a0 + ((p1 <<< ((1 : Int32) &&& 31)) - n_t_a0)) >>> ((1 : Int32) &&& 31)) <<< ((1 : Int32) &&& 31))), (.ref t_a0), (.ref a0)])) (rest := [(.ref a0)]) rfl rfl rfl rfl (own_e hby d9 20 rfl) rfl
 obtain ⟨b8, b9, rfl, Nq7, Kq7, hp10, hp11, F12, F13⟩ := hQ7
 have N7 := Fr.app N5 Nq7
 have K7 : Keep h0 T7.heap [a0] := (Keep.refl h0 [a0]).trans Kq7 (all0)
 have Z7 := ql Z0 Kq7.1
 have sz_b8 := ql (Keep.refl h0 [a0]).1 hp11
 refine qb st7 ?_
 show qG p e below _ (T7.setTop (mkF m 35 #[vR a0, vI p1, vI (n_t_a0 >>> ((1 : Int32) &&& 31))] [(.ref b8), (.ref a0)]))
 have F14 := (P_E_a0.keep Kq7)
 have F15 := (P_F_a0_value.keep Kq7 nin0)
 obtain ⟨T16, h16, X16, e16, W16, st16⟩ := putF X7 hx hZ hown (host := "") (Or.inl (hwd 32 rfl)) Via.refl rfl F15 F14 (Or.inl (hwd 33 rfl)) (hwd 17 rfl) (ty := (.array .byte)) (by decide) rfl rfl (g := (mkF m 35 #[vR a0, vI p1, vI (n_t_a0 >>> ((1 : Int32) &&& 31))] [(.ref b8), (.ref a0)])) rfl rfl (own_e hby d9 21 rfl)
 have Fw16 : Fld Z h16 a0 cA "value" "[B" (.ref b8) := F15.same W16
 have K16 : Keep h0 h16 [a0] := K7.wr W16 (Or.inl (List.mem_of_getElem? (i := 0) rfl))
 have Z16 := ql Z7 (Keep.of_wr W16).1
 have N16 := Fr.snoc X16 N7 g_a0
 refine qb st16 ?_
 show qG p e below _ (T16.setTop (mkF m 38 #[vR a0, vI p1, vI (n_t_a0 >>> ((1 : Int32) &&& 31))] []))
 have F17 := (F14.wr W16)
 have F18 := ((P_F_a0_coder.keep Kq7 nin0).other W16 (Or.inr (slot_ne (Or.inl (hwd 35 rfl)) (Or.inl (hwd 33 rfl)) (by decide) (t := .byte) (t' := (.array .byte)) (by decide) (by decide))))
 have F19 := ((P_F_a0_count.keep Kq7 nin0).other W16 (Or.inr (slot_ne (Or.inl (hwd 60 rfl)) (Or.inl (hwd 33 rfl)) (by decide) (t := .int) (t' := (.array .byte)) (by decide) (by decide))))
 have F20 := ((P_F_a0_maybeLatin1.keep Kq7 nin0).other W16 (Or.inr (slot_ne (Or.inl (hwd 299 rfl)) (Or.inl (hwd 33 rfl)) (by decide) (t := .boolean) (t' := (.array .byte)) (by decide) (by decide))))
 have F21 := (F12.wr W16)
 have F22 := (F13.other W16 (qm P_E_a0.lt hp11))
 exact own_ret0 X16 hx hrt (own_e hby d9 22 rfl) hlk e16 ⟨_, _, rfl, N16, K16, F17, F18, Fw16, F19, F20, hp10, sz_b8, F21, F22⟩ (by decide) (by decide)
theorem pd_137 : parseMethodDescriptor "()Z" = some ⟨[], some .boolean⟩ := by decide +kernel
theorem d45 : own_ds jdk_68_method_11_code [(0, .aload_n 0, 1), (1, .invokevirtual 83, 3), (4, .ifCond .ne 4, 3), (7, .return_, 1), (8, .aload_n 0, 1), (9, .getfield 15, 3), (12, .arraylength, 1), (13, .invokestatic 26, 3), (16, .astore_n 1, 1), (17, .aload_n 0, 1), (18, .getfield 15, 3), (21, .iconst 0, 1), (22, .aload_n 1, 1), (23, .iconst 0, 1), (24, .aload_n 0, 1), (25, .getfield 79, 3), (28, .invokestatic 125, 3), (31, .aload_n 0, 1), (32, .aload_n 1, 1), (33, .putfield 15, 3), (36, .aload_n 0, 1), (37, .iconst 1, 1), (38, .putfield 22, 3), (41, .return_, 1)] = true := by decide +kernel
theorem ef_inf0 (m : MethodId) (a0 : Addr) : entryFrame m #[(.ref a0)] 2 = mkF m 0 #[vR a0, .unset] [] := rfl
def Qinf0 (Z : State) (t_a0 : Addr) (k_t_a0 : ClassId) (n_t_a0 : Int32) (fn_t_a0 : Nat → Int32) (f_CS : Int32) (f_SF : Value) (a0 : Addr) (f_a0_maybeLatin1 : Int32) (h0 : Heap) (n0 : Nat) (v : Option Value) (h : Heap) (L : List Loc) : Prop := ∃ (b5 : Addr) (b6 : ClassId), v = none ∧ Fr n0 L ∧ Keep h0 h [a0] ∧ Exa Z h a0 "java/lang/StringBuilder" ∧ Fld Z h a0 cA "coder" "B" (.int (nar .byte (1 : Int32))) ∧ Fld Z h a0 cA "value" "[B" (.ref b5) ∧ Fld Z h a0 cA "count" "I" (.int 0) ∧ Fld Z h a0 cA "maybeLatin1" "Z" (.int f_a0_maybeLatin1) ∧ (n0 ≤ b5) ∧ (h0.size ≤ b5) ∧ Exa Z h b5 "[B" ∧ qA Z h b5 b6 .byte (n_t_a0 <<< ((1 : Int32) &&& 31)) (fun i => .int ((fun _ => (0 : Int32)) i))
theorem rminf0 (l : Launch) (Z : State) (A0 : Array Value) (hw : ∀ d ∈ tables_1, d.before A0 Z = true) (ws : List Jvm.Cond) (t_a0 : Addr) (k_t_a0 : ClassId) (n_t_a0 : Int32) (fn_t_a0 : Nat → Int32) (f_CS : Int32) (f_SF : Value) (a0 : Addr) (f_a0_maybeLatin1 : Int32) (h0 : Heap) (n0 : Nat) (Z0 : n0 ≤ h0.size) (P_E_a0 : Exa Z h0 a0 "java/lang/StringBuilder") (P_F_a0_coder : Fld Z h0 a0 cA "coder" "B" (.int 0)) (P_F_a0_value : Fld Z h0 a0 cA "value" "[B" (.ref t_a0)) (P_F_a0_count : Fld Z h0 a0 cA "count" "I" (.int 0)) (P_V_t_a0 : qA Z h0 t_a0 k_t_a0 .byte n_t_a0 (fun i => .int (fn_t_a0 i))) (P_S_CS : Sta Z h0 cS "COMPACT_STRINGS" "Z" (.int f_CS)) (hn_CS : ¬ (f_CS = (0 : Int32))) (P_S_SF : Sta Z h0 "jdk/internal/util/Preconditions" "SIOOBE_FORMATTER" "Ljava/util/function/BiFunction;" f_SF) (hr_f_SF : f_SF.isRef = true) (hp_2 : ¬ (n_t_a0 < (0 : Int32))) (hp_3 : n_t_a0 < (1073741823 : Int32)) (hp_4 : ¬ ((n_t_a0 <<< ((1 : Int32) &&& 31)) < (0 : Int32))) (hp_5 : ((n_t_a0 <<< ((1 : Int32) &&& 31))).toNatClampNeg ≤ 96) (hp_6 : ¬ (((((n_t_a0 <<< ((1 : Int32) &&& 31)) >>> ((1 : Int32) &&& 31)) ||| (0 : Int32)) ||| (0 : Int32)) < (0 : Int32))) (hp_7 : ¬ ((((n_t_a0 <<< ((1 : Int32) &&& 31)) >>> ((1 : Int32) &&& 31)) - (0 : Int32)) < (0 : Int32))) (g_a0 : n0 ≤ a0) (P_F_a0_maybeLatin1 : Fld Z h0 a0 cA "maybeLatin1" "Z" (.int f_a0_maybeLatin1)) :
  qM l Z (⟨"java/lang/AbstractStringBuilder", "inflate", "()V"⟩ : MethodName) jdk_68_method_11_code 2 none ws ({ frames := 5, cells := 1, slots := 96, locals := 76 } : Room) #[(.ref a0)] h0 (Qinf0 Z t_a0 k_t_a0 n_t_a0 fn_t_a0 f_CS f_SF a0 f_a0_maybeLatin1 h0 n0) 1 96 := own_enter (plainFor_of_name pn_isl0) (fun m => ef_inf0 m a0) fun p e s m below meth c s₁ hx hby hml hlk hown hnm X0 e0 hZ hrt => by
 have hwd := qw hw
 have N0 := Fr.nil n0
 show qG p e below _ (s₁.setTop (mkF m 0 #[vR a0, .unset] []))
 refine qb (fun _ k => XS.aloadN X0.here hx rfl (own_e hby d45 0 rfl) rfl rfl k) ?_
 obtain ⟨_, T1, Lc1, X1, hQ1, st1⟩ := own_cV X0 hx hZ hown hml (rmisl0 l Z A0 hw [] f_CS a0 h0 n0 Z0 P_E_a0 P_F_a0_coder P_S_CS hn_CS) (hwd 275 rfl) (hwd 139 rfl) (hwd 26 rfl) (hwd 141 rfl) (by decide) pd_137 e0 (hwd 138 rfl) (hwd 140 rfl) P_E_a0 (g := (mkF m 1 #[vR a0, .unset] [(.ref a0)])) (rest := []) rfl rfl rfl rfl (own_e hby d45 1 rfl) rfl
 obtain ⟨rfl, Nq1, eq1⟩ := hQ1
 have N1 := Fr.app N0 Nq1
 refine qb st1 ?_
 show qG p e below _ (T1.setTop (mkF m 4 #[vR a0, .unset] [(.int 1)]))
 refine qb (fun _ k => XS.ifYes X1.here hx rfl (pc0 := 4) (pc' := 8) rfl (own_e hby d45 2 rfl) rfl ((if0 _ _).trans (feq (by decide : ¬ ((1 : Int32) = (0 : Int32)))).2) (by decide) (by decide) k) ?_
 show qG p e below _ (T1.setTop (mkF m 8 #[vR a0, .unset] []))
 refine qb (fun _ k => XS.aloadN X1.here hx rfl (own_e hby d45 4 rfl) rfl rfl k) ?_
 obtain ⟨T2, X2, e2, st2⟩ := getF X1 hx hZ hown (host := "") (Or.inl (hwd 32 rfl)) Via.refl eq1 P_F_a0_value (g := (mkF m 9 #[vR a0, .unset] [(.ref a0)])) rfl rfl (own_e hby d45 5 rfl)
 refine qb st2 ?_
 obtain ⟨cl3, Ar3, qq3, S3, M3, H3, G3⟩ := id P_V_t_a0
 refine qb (fun t k => X2.arraylength hx (by rw [e2]; exact Ar3.1) (State.isArrayOf_alike hZ.alike Ar3.2.1) (g := (mkF m 12 #[vR a0, .unset] [(.ref t_a0)])) rfl rfl (own_e hby d45 6 rfl) _ k) ?_
 rw [len_of S3 M3]
 show qG p e below _ (T2.setTop (mkF m 13 #[vR a0, .unset] [(.int n_t_a0)]))
 obtain ⟨_, T4, Lc4, X4, hQ4, st4⟩ := own_cS X2 hx hZ hown hml (rmnbf l Z A0 hw [] n_t_a0 h0 n0 Z0 hp_2 hp_3 hp_4 hp_5) (hwd 276 rfl) (hwd 255 rfl) (hwd 243 rfl) (hwd 256 rfl) (by decide) pd_254 e2 (g := (mkF m 13 #[vR a0, .unset] [(.int n_t_a0)])) (rest := []) rfl rfl rfl rfl (own_e hby d45 7 rfl) rfl
 obtain ⟨b5, b6, rfl, Nq4, Kq4, hp7, hp8, F9, F10⟩ := hQ4
 have N4 := Fr.app N1 Nq4
 have K4 : Keep h0 T4.heap [a0] := (Keep.refl h0 [a0]).trans Kq4 (all0)
 have Z4 := ql Z0 Kq4.1
 have sz_b5 := ql (Keep.refl h0 [a0]).1 hp8
 refine qb st4 ?_
 show qG p e below _ (T4.setTop (mkF m 16 #[vR a0, .unset] [(.ref b5)]))
 refine qb (fun _ k => XS.astoreN X4.here hx rfl (own_e hby d45 8 rfl) rfl rfl (l' := #[vR a0, vR b5]) rfl k) ?_
 show qG p e below _ (T4.setTop (mkF m 17 #[vR a0, vR b5] []))
 refine qb (fun _ k => XS.aloadN X4.here hx rfl (own_e hby d45 9 rfl) rfl rfl k) ?_
 have F11 := (P_F_a0_value.keep Kq4 nin0)
 obtain ⟨T12, X12, e12, st12⟩ := getF X4 hx hZ hown (host := "") (Or.inl (hwd 32 rfl)) Via.refl rfl F11 (g := (mkF m 18 #[vR a0, vR b5] [(.ref a0)])) rfl rfl (own_e hby d45 10 rfl)
 refine qb st12 ?_
 refine qb (fun _ k => XS.iconst X12.here hx rfl (own_e hby d45 11 rfl) k) ?_
 refine qb (fun _ k => XS.aloadN X12.here hx rfl (own_e hby d45 12 rfl) rfl rfl k) ?_
 refine qb (fun _ k => XS.iconst X12.here hx rfl (own_e hby d45 13 rfl) k) ?_
 refine qb (fun _ k => XS.aloadN X12.here hx rfl (own_e hby d45 14 rfl) rfl rfl k) ?_
 have F13 := (P_F_a0_count.keep Kq4 nin0)
 obtain ⟨T14, X14, e14, st14⟩ := getF X12 hx hZ hown (host := "") (Or.inl (hwd 59 rfl)) Via.refl e12 F13 (g := (mkF m 25 #[vR a0, vR b5] [(.ref a0), (.int 0), (.ref b5), (.int 0), (.ref t_a0)])) rfl rfl (own_e hby d45 15 rfl)
 refine qb st14 ?_
 have F15 := qk P_S_SF Kq4 all0
 obtain ⟨_, T16, Lc16, X16, hQ16, st16⟩ := own_cS X14 hx hZ hown hml (rmslZ l Z A0 hw [] b6 (n_t_a0 <<< ((1 : Int32) &&& 31)) (fun _ => (0 : Int32)) f_SF t_a0 b5 T4.heap n0 Z4 F10 F15 hr_f_SF hp_6 hp_7) (hwd 277 rfl) (hwd 278 rfl) (hwd 231 rfl) (hwd 279 rfl) (by decide) pd_277 e14 (g := (mkF m 28 #[vR a0, vR b5] [(.int 0), (.int 0), (.ref b5), (.int 0), (.ref t_a0)])) (rest := []) rfl rfl rfl rfl (own_e hby d45 16 rfl) rfl
 obtain ⟨rfl, Nq16, eq16⟩ := hQ16
 have N16 := Fr.app N4 Nq16
 refine qb st16 ?_
 show qG p e below _ (T16.setTop (mkF m 31 #[vR a0, vR b5] []))
 refine qb (fun _ k => XS.aloadN X16.here hx rfl (own_e hby d45 17 rfl) rfl rfl k) ?_
 refine qb (fun _ k => XS.aloadN X16.here hx rfl (own_e hby d45 18 rfl) rfl rfl k) ?_
 have F17 := (P_E_a0.keep Kq4)
 obtain ⟨T18, h18, X18, e18, W18, st18⟩ := putF X16 hx hZ hown (host := "") (Or.inl (hwd 32 rfl)) Via.refl eq16 F11 F17 (Or.inl (hwd 33 rfl)) (hwd 17 rfl) (ty := (.array .byte)) (by decide) rfl rfl (g := (mkF m 33 #[vR a0, vR b5] [(.ref b5), (.ref a0)])) rfl rfl (own_e hby d45 19 rfl)
 have Fw18 : Fld Z h18 a0 cA "value" "[B" (.ref b5) := F11.same W18
 have K18 : Keep h0 h18 [a0] := K4.wr W18 (Or.inl (List.mem_of_getElem? (i := 0) rfl))
 have Z18 := ql Z4 (Keep.of_wr W18).1
 have N18 := Fr.snoc X18 N16 g_a0
 refine qb st18 ?_
 show qG p e below _ (T18.setTop (mkF m 36 #[vR a0, vR b5] []))
 refine qb (fun _ k => XS.aloadN X18.here hx rfl (own_e hby d45 20 rfl) rfl rfl k) ?_
 refine qb (fun _ k => XS.iconst X18.here hx rfl (own_e hby d45 21 rfl) k) ?_
 have F19 := (F17.wr W18)
 have F20 := ((P_F_a0_coder.keep Kq4 nin0).other W18 (Or.inr (slot_ne (Or.inl (hwd 35 rfl)) (Or.inl (hwd 33 rfl)) (by decide) (t := .byte) (t' := (.array .byte)) (by decide) (by decide))))
 obtain ⟨T21, h21, X21, e21, W21, st21⟩ := putFN X18 hx hZ hown (hwd 34 rfl) Via.refl e18 F20 F19 (Or.inl (hwd 35 rfl)) (hwd 17 rfl) (ty := .byte) (v' := (.int (nar .byte (1 : Int32)))) (by decide) rfl (fits_nar_byte _) (g := (mkF m 38 #[vR a0, vR b5] [(.int 1), (.ref a0)])) rfl rfl (own_e hby d45 22 rfl)
 have Fw21 : Fld Z h21 a0 cA "coder" "B" (.int (nar .byte (1 : Int32))) := F20.same W21
 have K21 : Keep h0 h21 [a0] := K18.wr W21 (Or.inl (List.mem_of_getElem? (i := 0) rfl))
 have Z21 := ql Z18 (Keep.of_wr W21).1
 have N21 := Fr.snoc X21 N18 g_a0
 refine qb st21 ?_
 show qG p e below _ (T21.setTop (mkF m 41 #[vR a0, vR b5] []))
 have F22 := (F19.wr W21)
 have F23 := (Fw18.other W21 (Or.inr (slot_ne (Or.inl (hwd 33 rfl)) (Or.inl (hwd 35 rfl)) (by decide) (t := (.array .byte)) (t' := .byte) (by decide) (by decide))))
 have F24 := ((F13.other W18 (Or.inr (slot_ne (Or.inl (hwd 60 rfl)) (Or.inl (hwd 33 rfl)) (by decide) (t := .int) (t' := (.array .byte)) (by decide) (by decide)))).other W21 (Or.inr (slot_ne (Or.inl (hwd 60 rfl)) (Or.inl (hwd 35 rfl)) (by decide) (t := .int) (t' := .byte) (by decide) (by decide))))
 have F25 := (((P_F_a0_maybeLatin1.keep Kq4 nin0).other W18 (Or.inr (slot_ne (Or.inl (hwd 299 rfl)) (Or.inl (hwd 33 rfl)) (by decide) (t := .boolean) (t' := (.array .byte)) (by decide) (by decide)))).other W21 (Or.inr (slot_ne (Or.inl (hwd 299 rfl)) (Or.inl (hwd 35 rfl)) (by decide) (t := .boolean) (t' := .byte) (by decide) (by decide))))
 have F26 := ((F9.wr W18).wr W21)
 have F27 := ((F10.other W18 (qm P_E_a0.lt hp8)).other W21 (qm P_E_a0.lt hp8))
 exact own_ret0 X21 hx hrt (own_e hby d45 23 rfl) hlk e21 ⟨_, _, rfl, N21, K21, F22, Fw21, F23, F24, F25, hp7, sz_b5, F26, F27⟩ (by decide) (by decide)
theorem ef_inf1 (m : MethodId) (a0 : Addr) : entryFrame m #[(.ref a0)] 2 = mkF m 0 #[vR a0, .unset] [] := rfl
def Qinf1 (Z : State) (f_CS : Int32) (a0 : Addr) (h0 : Heap) (n0 : Nat) (v : Option Value) (h : Heap) (L : List Loc) : Prop := v = none ∧ Fr n0 L ∧ h = h0
theorem rminf1 (l : Launch) (Z : State) (A0 : Array Value) (hw : ∀ d ∈ tables_1, d.before A0 Z = true) (ws : List Jvm.Cond) (f_CS : Int32) (a0 : Addr) (h0 : Heap) (n0 : Nat) (Z0 : n0 ≤ h0.size) (P_E_a0 : Exa Z h0 a0 "java/lang/StringBuilder") (P_F_a0_coder : Fld Z h0 a0 cA "coder" "B" (.int 1)) (P_S_CS : Sta Z h0 cS "COMPACT_STRINGS" "Z" (.int f_CS)) (hn_CS : ¬ (f_CS = (0 : Int32))) :
  qM l Z (⟨"java/lang/AbstractStringBuilder", "inflate", "()V"⟩ : MethodName) jdk_68_method_11_code 2 none ws ({ frames := 1, cells := 0, slots := 0, locals := 12 } : Room) #[(.ref a0)] h0 (Qinf1 Z f_CS a0 h0 n0) 0 0 := own_enter (plainFor_of_name pn_isl0) (fun m => ef_inf1 m a0) fun p e s m below meth c s₁ hx hby hml hlk hown hnm X0 e0 hZ hrt => by
 have hwd := qw hw
 have N0 := Fr.nil n0
 show qG p e below _ (s₁.setTop (mkF m 0 #[vR a0, .unset] []))
 refine qb (fun _ k => XS.aloadN X0.here hx rfl (own_e hby d45 0 rfl) rfl rfl k) ?_
 obtain ⟨_, T1, Lc1, X1, hQ1, st1⟩ := own_cV X0 hx hZ hown hml (rmisl1 l Z A0 hw [] f_CS a0 h0 n0 Z0 P_E_a0 P_F_a0_coder P_S_CS hn_CS) (hwd 275 rfl) (hwd 139 rfl) (hwd 26 rfl) (hwd 141 rfl) (by decide) pd_137 e0 (hwd 138 rfl) (hwd 140 rfl) P_E_a0 (g := (mkF m 1 #[vR a0, .unset] [(.ref a0)])) (rest := []) rfl rfl rfl rfl (own_e hby d45 1 rfl) rfl
 obtain ⟨rfl, Nq1, eq1⟩ := hQ1
 have N1 := Fr.app N0 Nq1
 refine qb st1 ?_
 show qG p e below _ (T1.setTop (mkF m 4 #[vR a0, .unset] [(.int 0)]))
 refine qb (fun _ k => XS.ifNo X1.here hx rfl (own_e hby d45 2 rfl) rfl ((if0 _ _).trans (teq (by decide : (0 : Int32) = (0 : Int32))).2) k) ?_
 show qG p e below _ (T1.setTop (mkF m 7 #[vR a0, .unset] []))
 exact own_ret0 X1 hx hrt (own_e hby d45 3 rfl) hlk eq1 ⟨rfl, N1, rfl⟩ (by decide) (by decide)
theorem d11 : own_ds jdk_68_method_71_code [(0, .getstatic 18, 3), (3, .ifCond .eq 18, 3), (6, .aload_n 0, 1), (7, .getfield 22, 3), (10, .aload_n 1, 1), (11, .invokevirtual 40, 3), (14, .if_icmp .eq 7, 3), (17, .aload_n 0, 1), (18, .invokevirtual 195, 3), (21, .return_, 1)] = true := by decide +kernel
theorem ef_ii00 (m : MethodId) (a0 a1 : Addr) : entryFrame m #[(.ref a0), (.ref a1)] 2 = mkF m 0 #[vR a0, vR a1] [] := rfl
def Qii00 (Z : State) (f_CS : Int32) (a0 a1 : Addr) (h0 : Heap) (n0 : Nat) (v : Option Value) (h : Heap) (L : List Loc) : Prop := v = none ∧ Fr n0 L ∧ h = h0
theorem rmii00 (l : Launch) (Z : State) (A0 : Array Value) (hw : ∀ d ∈ tables_1, d.before A0 Z = true) (ws : List Jvm.Cond) (f_CS : Int32) (a0 a1 : Addr) (h0 : Heap) (n0 : Nat) (Z0 : n0 ≤ h0.size) (P_E_a0 : Exa Z h0 a0 "java/lang/StringBuilder") (P_F_a0_coder : Fld Z h0 a0 cA "coder" "B" (.int 0)) (P_E_a1 : Exa Z h0 a1 "java/lang/String") (P_F_a1_coder : Fld Z h0 a1 cS "coder" "B" (.int 0)) (P_S_CS : Sta Z h0 cS "COMPACT_STRINGS" "Z" (.int f_CS)) (hn_CS : ¬ (f_CS = (0 : Int32))) :
  qM l Z (⟨"java/lang/AbstractStringBuilder", "inflateIfNeededFor", "(Ljava/lang/String;)V"⟩ : MethodName) jdk_68_method_71_code 2 none ws ({ frames := 1, cells := 0, slots := 0, locals := 13 } : Room) #[(.ref a0), (.ref a1)] h0 (Qii00 Z f_CS a0 a1 h0 n0) 0 0 := own_enter (plainFor_of_name pn_isl0) (fun m => ef_ii00 m a0 a1) fun p e s m below meth c s₁ hx hby hml hlk hown hnm X0 e0 hZ hrt => by
 have hwd := qw hw
 have N0 := Fr.nil n0
 show qG p e below _ (s₁.setTop (mkF m 0 #[vR a0, vR a1] []))
 obtain ⟨T1, X1, e1, st1⟩ := getS2 X0 hx hZ hown (host := "") (Or.inl (hwd 31 rfl)) Via.refl e0 P_S_CS (g := (mkF m 0 #[vR a0, vR a1] [])) rfl (own_e hby d11 0 rfl)
 refine qb st1 ?_
 refine qb (fun _ k => XS.ifNo X1.here hx rfl (own_e hby d11 1 rfl) rfl ((if0 _ _).trans (feq hn_CS).1) k) ?_
 show qG p e below _ (T1.setTop (mkF m 6 #[vR a0, vR a1] []))
 refine qb (fun _ k => XS.aloadN X1.here hx rfl (own_e hby d11 2 rfl) rfl rfl k) ?_
 obtain ⟨T2, X2, e2, st2⟩ := getF X1 hx hZ hown (host := "") (Or.inl (hwd 34 rfl)) Via.refl e1 P_F_a0_coder (g := (mkF m 7 #[vR a0, vR a1] [(.ref a0)])) rfl rfl (own_e hby d11 3 rfl)
 refine qb st2 ?_
 refine qb (fun _ k => XS.aloadN X2.here hx rfl (own_e hby d11 4 rfl) rfl rfl k) ?_
 obtain ⟨_, T3, Lc3, X3, hQ3, st3⟩ := own_cV X2 hx hZ hown hml (rmcoder0 l Z A0 hw [] f_CS a1 h0 n0 Z0 P_E_a1 P_F_a1_coder P_S_CS hn_CS) (hwd 76 rfl) (hwd 54 rfl) (hwd 1 rfl) (hwd 56 rfl) (by decide) pd_52 e2 (hwd 53 rfl) (hwd 55 rfl) P_E_a1 (g := (mkF m 11 #[vR a0, vR a1] [(.ref a1), (.int 0)])) (rest := [(.int 0)]) rfl rfl rfl rfl (own_e hby d11 5 rfl) rfl
 obtain ⟨rfl, Nq3, eq3⟩ := hQ3
 have N3 := Fr.app N0 Nq3
 refine qb st3 ?_
 show qG p e below _ (T3.setTop (mkF m 14 #[vR a0, vR a1] [(.int 0), (.int 0)]))
 refine qb (fun _ k => XS.icmpYes X3.here hx rfl (pc0 := 14) (pc' := 21) rfl (own_e hby d11 6 rfl) rfl (teq (by decide : (0 : Int32) = (0 : Int32))).1 (by decide) (by decide) k) ?_
 show qG p e below _ (T3.setTop (mkF m 21 #[vR a0, vR a1] []))
 exact own_ret0 X3 hx hrt (own_e hby d11 9 rfl) hlk eq3 ⟨rfl, N3, rfl⟩ (by decide) (by decide)
theorem pd_19 : parseMethodDescriptor "()V" = some ⟨[], none⟩ := by decide +kernel
theorem ef_ii01 (m : MethodId) (a0 a1 : Addr) : entryFrame m #[(.ref a0), (.ref a1)] 2 = mkF m 0 #[vR a0, vR a1] [] := rfl
def Qii01 (Z : State) (t_a0 : Addr) (k_t_a0 : ClassId) (n_t_a0 : Int32) (fn_t_a0 : Nat → Int32) (f_CS : Int32) (f_SF : Value) (a0 a1 : Addr) (f_a0_maybeLatin1 : Int32) (h0 : Heap) (n0 : Nat) (v : Option Value) (h : Heap) (L : List Loc) : Prop := ∃ (b5 : Addr) (b6 : ClassId), v = none ∧ Fr n0 L ∧ Keep h0 h [a0] ∧ Exa Z h a0 "java/lang/StringBuilder" ∧ Fld Z h a0 cA "coder" "B" (.int 1) ∧ Fld Z h a0 cA "value" "[B" (.ref b5) ∧ Fld Z h a0 cA "count" "I" (.int 0) ∧ Fld Z h a0 cA "maybeLatin1" "Z" (.int f_a0_maybeLatin1) ∧ (n0 ≤ b5) ∧ (h0.size ≤ b5) ∧ Exa Z h b5 "[B" ∧ qA Z h b5 b6 .byte (n_t_a0 <<< ((1 : Int32) &&& 31)) (fun i => .int ((fun _ => (0 : Int32)) i))
theorem rmii01 (l : Launch) (Z : State) (A0 : Array Value) (hw : ∀ d ∈ tables_1, d.before A0 Z = true) (ws : List Jvm.Cond) (t_a0 : Addr) (k_t_a0 : ClassId) (n_t_a0 : Int32) (fn_t_a0 : Nat → Int32) (f_CS : Int32) (f_SF : Value) (a0 a1 : Addr) (f_a0_maybeLatin1 : Int32) (h0 : Heap) (n0 : Nat) (Z0 : n0 ≤ h0.size) (P_E_a0 : Exa Z h0 a0 "java/lang/StringBuilder") (P_F_a0_coder : Fld Z h0 a0 cA "coder" "B" (.int 0)) (P_F_a0_value : Fld Z h0 a0 cA "value" "[B" (.ref t_a0)) (P_F_a0_count : Fld Z h0 a0 cA "count" "I" (.int 0)) (P_V_t_a0 : qA Z h0 t_a0 k_t_a0 .byte n_t_a0 (fun i => .int (fn_t_a0 i))) (P_E_a1 : Exa Z h0 a1 "java/lang/String") (P_F_a1_coder : Fld Z h0 a1 cS "coder" "B" (.int 1)) (P_S_CS : Sta Z h0 cS "COMPACT_STRINGS" "Z" (.int f_CS)) (hn_CS : ¬ (f_CS = (0 : Int32))) (P_S_SF : Sta Z h0 "jdk/internal/util/Preconditions" "SIOOBE_FORMATTER" "Ljava/util/function/BiFunction;" f_SF) (hr_f_SF : f_SF.isRef = true) (P_F_a0_maybeLatin1 : Fld Z h0 a0 cA "maybeLatin1" "Z" (.int f_a0_maybeLatin1)) (hp_2 : ¬ (n_t_a0 < (0 : Int32))) (hp_3 : n_t_a0 < (1073741823 : Int32)) (hp_4 : ¬ ((n_t_a0 <<< ((1 : Int32) &&& 31)) < (0 : Int32))) (hp_5 : ((n_t_a0 <<< ((1 : Int32) &&& 31))).toNatClampNeg ≤ 96) (hp_6 : ¬ (((((n_t_a0 <<< ((1 : Int32) &&& 31)) >>> ((1 : Int32) &&& 31)) ||| (0 : Int32)) ||| (0 : Int32)) < (0 : Int32))) (hp_7 : ¬ ((((n_t_a0 <<< ((1 : Int32) &&& 31)) >>> ((1 : Int32) &&& 31)) - (0 : Int32)) < (0 : Int32))) (g_a0 : n0 ≤ a0) :
  qM l Z (⟨"java/lang/AbstractStringBuilder", "inflateIfNeededFor", "(Ljava/lang/String;)V"⟩ : MethodName) jdk_68_method_71_code 2 none ws ({ frames := 6, cells := 1, slots := 96, locals := 89 } : Room) #[(.ref a0), (.ref a1)] h0 (Qii01 Z t_a0 k_t_a0 n_t_a0 fn_t_a0 f_CS f_SF a0 a1 f_a0_maybeLatin1 h0 n0) 1 96 := own_enter (plainFor_of_name pn_isl0) (fun m => ef_ii01 m a0 a1) fun p e s m below meth c s₁ hx hby hml hlk hown hnm X0 e0 hZ hrt => by
 have hwd := qw hw
 have N0 := Fr.nil n0
 show qG p e below _ (s₁.setTop (mkF m 0 #[vR a0, vR a1] []))
 obtain ⟨T1, X1, e1, st1⟩ := getS2 X0 hx hZ hown (host := "") (Or.inl (hwd 31 rfl)) Via.refl e0 P_S_CS (g := (mkF m 0 #[vR a0, vR a1] [])) rfl (own_e hby d11 0 rfl)
 refine qb st1 ?_
 refine qb (fun _ k => XS.ifNo X1.here hx rfl (own_e hby d11 1 rfl) rfl ((if0 _ _).trans (feq hn_CS).1) k) ?_
 show qG p e below _ (T1.setTop (mkF m 6 #[vR a0, vR a1] []))
 refine qb (fun _ k => XS.aloadN X1.here hx rfl (own_e hby d11 2 rfl) rfl rfl k) ?_
 obtain ⟨T2, X2, e2, st2⟩ := getF X1 hx hZ hown (host := "") (Or.inl (hwd 34 rfl)) Via.refl e1 P_F_a0_coder (g := (mkF m 7 #[vR a0, vR a1] [(.ref a0)])) rfl rfl (own_e hby d11 3 rfl)
 refine qb st2 ?_
 refine qb (fun _ k => XS.aloadN X2.here hx rfl (own_e hby d11 4 rfl) rfl rfl k) ?_
 obtain ⟨_, T3, Lc3, X3, hQ3, st3⟩ := own_cV X2 hx hZ hown hml (rmcoder1 l Z A0 hw [] f_CS a1 h0 n0 Z0 P_E_a1 P_F_a1_coder P_S_CS hn_CS) (hwd 76 rfl) (hwd 54 rfl) (hwd 1 rfl) (hwd 56 rfl) (by decide) pd_52 e2 (hwd 53 rfl) (hwd 55 rfl) P_E_a1 (g := (mkF m 11 #[vR a0, vR a1] [(.ref a1), (.int 0)])) (rest := [(.int 0)]) rfl rfl rfl rfl (own_e hby d11 5 rfl) rfl
 obtain ⟨rfl, Nq3, eq3⟩ := hQ3
 have N3 := Fr.app N0 Nq3
 refine qb st3 ?_
 show qG p e below _ (T3.setTop (mkF m 14 #[vR a0, vR a1] [(.int 1), (.int 0)]))
 refine qb (fun _ k => XS.icmpNo X3.here hx rfl (own_e hby d11 6 rfl) rfl (feq (by decide : ¬ ((0 : Int32) = (1 : Int32)))).1 k) ?_
 show qG p e below _ (T3.setTop (mkF m 17 #[vR a0, vR a1] []))
 refine qb (fun _ k => XS.aloadN X3.here hx rfl (own_e hby d11 7 rfl) rfl rfl k) ?_
 obtain ⟨_, T4, Lc4, X4, hQ4, st4⟩ := own_cP X3 hx hZ hown hml (rminf0 l Z A0 hw [] t_a0 k_t_a0 n_t_a0 fn_t_a0 f_CS f_SF a0 f_a0_maybeLatin1 h0 n0 Z0 P_E_a0 P_F_a0_coder P_F_a0_value P_F_a0_count P_V_t_a0 P_S_CS hn_CS P_S_SF hr_f_SF hp_2 hp_3 hp_4 hp_5 hp_6 hp_7 g_a0 P_F_a0_maybeLatin1) (hwd 270 rfl) (hwd 271 rfl) (hwd 26 rfl) (hwd 274 rfl) (by decide) pd_19 eq3 (hwd 272 rfl) (own_selPriv2 hZ (hwd 273 rfl) (hwd 272 rfl) (hwd 271 rfl) (by decide)) P_E_a0 (g := (mkF m 18 #[vR a0, vR a1] [(.ref a0)])) (rest := []) rfl rfl rfl rfl (own_e hby d11 8 rfl) rfl
 obtain ⟨b5, b6, rfl, Nq4, Kq4, F7, F8, F9, F10, F11, hp12, hp13, F14, F15⟩ := hQ4
 have N4 := Fr.app N3 Nq4
 have K4 : Keep h0 T4.heap [a0] := (Keep.refl h0 [a0]).trans Kq4 ((allS (Or.inl (List.mem_of_getElem? (i := 0) rfl)) all0))
 have Z4 := ql Z0 Kq4.1
 have sz_b5 := ql (Keep.refl h0 [a0]).1 hp13
 refine qb st4 ?_
 show qG p e below _ (T4.setTop (mkF m 21 #[vR a0, vR a1] []))
 exact own_ret0 X4 hx hrt (own_e hby d11 9 rfl) hlk rfl ⟨_, _, rfl, N4, K4, F7, F8, F9, F10, F11, hp12, sz_b5, F14, F15⟩ (by decide) (by decide)
theorem ef_ii10 (m : MethodId) (a0 a1 : Addr) : entryFrame m #[(.ref a0), (.ref a1)] 2 = mkF m 0 #[vR a0, vR a1] [] := rfl
def Qii10 (Z : State) (f_CS : Int32) (a0 a1 : Addr) (h0 : Heap) (n0 : Nat) (v : Option Value) (h : Heap) (L : List Loc) : Prop := v = none ∧ Fr n0 L ∧ h = h0
theorem rmii10 (l : Launch) (Z : State) (A0 : Array Value) (hw : ∀ d ∈ tables_1, d.before A0 Z = true) (ws : List Jvm.Cond) (f_CS : Int32) (a0 a1 : Addr) (h0 : Heap) (n0 : Nat) (Z0 : n0 ≤ h0.size) (P_E_a0 : Exa Z h0 a0 "java/lang/StringBuilder") (P_F_a0_coder : Fld Z h0 a0 cA "coder" "B" (.int 1)) (P_E_a1 : Exa Z h0 a1 "java/lang/String") (P_F_a1_coder : Fld Z h0 a1 cS "coder" "B" (.int 0)) (P_S_CS : Sta Z h0 cS "COMPACT_STRINGS" "Z" (.int f_CS)) (hn_CS : ¬ (f_CS = (0 : Int32))) :
  qM l Z (⟨"java/lang/AbstractStringBuilder", "inflateIfNeededFor", "(Ljava/lang/String;)V"⟩ : MethodName) jdk_68_method_71_code 2 none ws ({ frames := 2, cells := 0, slots := 0, locals := 25 } : Room) #[(.ref a0), (.ref a1)] h0 (Qii10 Z f_CS a0 a1 h0 n0) 0 0 := own_enter (plainFor_of_name pn_isl0) (fun m => ef_ii10 m a0 a1) fun p e s m below meth c s₁ hx hby hml hlk hown hnm X0 e0 hZ hrt => by
 have hwd := qw hw
 have N0 := Fr.nil n0
 show qG p e below _ (s₁.setTop (mkF m 0 #[vR a0, vR a1] []))
 obtain ⟨T1, X1, e1, st1⟩ := getS2 X0 hx hZ hown (host := "") (Or.inl (hwd 31 rfl)) Via.refl e0 P_S_CS (g := (mkF m 0 #[vR a0, vR a1] [])) rfl (own_e hby d11 0 rfl)
 refine qb st1 ?_
 refine qb (fun _ k => XS.ifNo X1.here hx rfl (own_e hby d11 1 rfl) rfl ((if0 _ _).trans (feq hn_CS).1) k) ?_
 show qG p e below _ (T1.setTop (mkF m 6 #[vR a0, vR a1] []))
 refine qb (fun _ k => XS.aloadN X1.here hx rfl (own_e hby d11 2 rfl) rfl rfl k) ?_
 obtain ⟨T2, X2, e2, st2⟩ := getF X1 hx hZ hown (host := "") (Or.inl (hwd 34 rfl)) Via.refl e1 P_F_a0_coder (g := (mkF m 7 #[vR a0, vR a1] [(.ref a0)])) rfl rfl (own_e hby d11 3 rfl)
 refine qb st2 ?_
 refine qb (fun _ k => XS.aloadN X2.here hx rfl (own_e hby d11 4 rfl) rfl rfl k) ?_
 obtain ⟨_, T3, Lc3, X3, hQ3, st3⟩ := own_cV X2 hx hZ hown hml (rmcoder0 l Z A0 hw [] f_CS a1 h0 n0 Z0 P_E_a1 P_F_a1_coder P_S_CS hn_CS) (hwd 76 rfl) (hwd 54 rfl) (hwd 1 rfl) (hwd 56 rfl) (by decide) pd_52 e2 (hwd 53 rfl) (hwd 55 rfl) P_E_a1 (g := (mkF m 11 #[vR a0, vR a1] [(.ref a1), (.int 1)])) (rest := [(.int 1)]) rfl rfl rfl rfl (own_e hby d11 5 rfl) rfl
 obtain ⟨rfl, Nq3, eq3⟩ := hQ3
 have N3 := Fr.app N0 Nq3
 refine qb st3 ?_
 show qG p e below _ (T3.setTop (mkF m 14 #[vR a0, vR a1] [(.int 0), (.int 1)]))
 refine qb (fun _ k => XS.icmpNo X3.here hx rfl (own_e hby d11 6 rfl) rfl (feq (by decide : ¬ ((1 : Int32) = (0 : Int32)))).1 k) ?_
 show qG p e below _ (T3.setTop (mkF m 17 #[vR a0, vR a1] []))
 refine qb (fun _ k => XS.aloadN X3.here hx rfl (own_e hby d11 7 rfl) rfl rfl k) ?_
 obtain ⟨_, T4, Lc4, X4, hQ4, st4⟩ := own_cP X3 hx hZ hown hml (rminf1 l Z A0 hw [] f_CS a0 h0 n0 Z0 P_E_a0 P_F_a0_coder P_S_CS hn_CS) (hwd 270 rfl) (hwd 271 rfl) (hwd 26 rfl) (hwd 274 rfl) (by decide) pd_19 eq3 (hwd 272 rfl) (own_selPriv2 hZ (hwd 273 rfl) (hwd 272 rfl) (hwd 271 rfl) (by decide)) P_E_a0 (g := (mkF m 18 #[vR a0, vR a1] [(.ref a0)])) (rest := []) rfl rfl rfl rfl (own_e hby d11 8 rfl) rfl
 obtain ⟨rfl, Nq4, eq4⟩ := hQ4
 have N4 := Fr.app N3 Nq4
 refine qb st4 ?_
 show qG p e below _ (T4.setTop (mkF m 21 #[vR a0, vR a1] []))
 exact own_ret0 X4 hx hrt (own_e hby d11 9 rfl) hlk eq4 ⟨rfl, N4, rfl⟩ (by decide) (by decide)
theorem d12 : own_ds jdk_42_method_147_code [(0, .aload_n 0, 1), (1, .invokevirtual 335, 3), (4, .iload_n 3, 1), (5, .if_icmp .ne 23, 3), (8, .aload_n 0, 1), (9, .getfield 9, 3), (12, .iconst 0, 1), (13, .aload_n 1, 1), (14, .iload_n 2, 1), (15, .iload_n 3, 1), (16, .ishl, 1), (17, .aload_n 0, 1), (18, .getfield 9, 3), (21, .arraylength, 1), (22, .invokestatic 212, 3), (25, .goto 18, 3), (28, .aload_n 0, 1), (29, .getfield 9, 3), (32, .iconst 0, 1), (33, .aload_n 1, 1), (34, .iload_n 2, 1), (35, .aload_n 0, 1), (36, .getfield 9, 3), (39, .arraylength, 1), (40, .invokestatic 106, 3), (43, .return_, 1)] = true := by decide +kernel
theorem ef_gb00 (m : MethodId) (a0 a1 : Addr) (p2 : Int32) : entryFrame m #[(.ref a0), (.ref a1), (.int p2), (.int 0)] 4 = mkF m 0 #[vR a0, vR a1, vI p2, vI 0] [] := rfl
def Qgb00 (Z : State) (t_a0 : Addr) (k_t_a0 : ClassId) (n_t_a0 : Int32) (fn_t_a0 : Nat → Int32) (k_a1 : ClassId) (n_a1 : Int32) (fn_a1 : Nat → Int32) (f_CS : Int32) (a0 a1 : Addr) (p2 : Int32) (h0 : Heap) (n0 : Nat) (v : Option Value) (h : Heap) (L : List Loc) : Prop := v = none ∧ Fr n0 L ∧ Keep h0 h [a1] ∧ qA Z h a1 k_a1 .byte n_a1 (fun i => .int ((own_cp fn_t_a0 0 fn_a1 (p2).toNatClampNeg (n_t_a0).toNatClampNeg) i))
theorem rmgb00 (l : Launch) (Z : State) (A0 : Array Value) (hw : ∀ d ∈ tables_1, d.before A0 Z = true) (ws : List Jvm.Cond) (t_a0 : Addr) (k_t_a0 : ClassId) (n_t_a0 : Int32) (fn_t_a0 : Nat → Int32) (k_a1 : ClassId) (n_a1 : Int32) (fn_a1 : Nat → Int32) (f_CS : Int32) (a0 a1 : Addr) (p2 : Int32) (h0 : Heap) (n0 : Nat) (Z0 : n0 ≤ h0.size) (P_E_a0 : Exa Z h0 a0 "java/lang/String") (P_F_a0_coder : Fld Z h0 a0 cS "coder" "B" (.int 0)) (P_F_a0_value : Fld Z h0 a0 cS "value" "[B" (.ref t_a0)) (P_V_t_a0 : qA Z h0 t_a0 k_t_a0 .byte n_t_a0 (fun i => .int (fn_t_a0 i))) (P_V_a1 : qA Z h0 a1 k_a1 .byte n_a1 (fun i => .int (fn_a1 i))) (P_S_CS : Sta Z h0 cS "COMPACT_STRINGS" "Z" (.int f_CS)) (hn_CS : ¬ (f_CS = (0 : Int32))) (hp_1 : ¬ p2 < 0) (hp_2 : ¬ n_t_a0 < 0) (hp_3 : ((0 : Int32)).toNatClampNeg + (n_t_a0).toNatClampNeg ≤ (n_t_a0).toNatClampNeg) (hp_4 : (p2).toNatClampNeg + (n_t_a0).toNatClampNeg ≤ (n_a1).toNatClampNeg) (g_a1 : n0 ≤ a1) :
  qM l Z (⟨"java/lang/String", "getBytes", "([BIB)V"⟩ : MethodName) jdk_42_method_147_code 4 none ws ({ frames := 1, cells := 0, slots := 0, locals := 30 } : Room) #[(.ref a0), (.ref a1), (.int p2), (.int 0)] h0 (Qgb00 Z t_a0 k_t_a0 n_t_a0 fn_t_a0 k_a1 n_a1 fn_a1 f_CS a0 a1 p2 h0 n0) 0 0 := own_enter (plainFor_of_name pn_si4L) (fun m => ef_gb00 m a0 a1 p2) fun p e s m below meth c s₁ hx hby hml hlk hown hnm X0 e0 hZ hrt => by
 have hwd := qw hw
 have N0 := Fr.nil n0
 show qG p e below _ (s₁.setTop (mkF m 0 #[vR a0, vR a1, vI p2, vI 0] []))
 refine qb (fun _ k => XS.aloadN X0.here hx rfl (own_e hby d12 0 rfl) rfl rfl k) ?_
 obtain ⟨_, T1, Lc1, X1, hQ1, st1⟩ := own_cV X0 hx hZ hown hml (rmcoder0 l Z A0 hw [] f_CS a0 h0 n0 Z0 P_E_a0 P_F_a0_coder P_S_CS hn_CS) (hwd 52 rfl) (hwd 54 rfl) (hwd 1 rfl) (hwd 56 rfl) (by decide) pd_52 e0 (hwd 53 rfl) (hwd 55 rfl) P_E_a0 (g := (mkF m 1 #[vR a0, vR a1, vI p2, vI 0] [(.ref a0)])) (rest := []) rfl rfl rfl rfl (own_e hby d12 1 rfl) rfl
 obtain ⟨rfl, Nq1, eq1⟩ := hQ1
 have N1 := Fr.app N0 Nq1
 refine qb st1 ?_
 show qG p e below _ (T1.setTop (mkF m 4 #[vR a0, vR a1, vI p2, vI 0] [(.int 0)]))
 refine qb (fun _ k => XS.iloadN X1.here hx rfl (own_e hby d12 2 rfl) rfl k) ?_
 refine qb (fun _ k => XS.icmpNo X1.here hx rfl (own_e hby d12 3 rfl) rfl (teq (by decide : (0 : Int32) = (0 : Int32))).2 k) ?_
 show qG p e below _ (T1.setTop (mkF m 8 #[vR a0, vR a1, vI p2, vI 0] []))
 refine qb (fun _ k => XS.aloadN X1.here hx rfl (own_e hby d12 4 rfl) rfl rfl k) ?_
 obtain ⟨T2, X2, e2, st2⟩ := getF X1 hx hZ hown (host := "") (Or.inl (hwd 51 rfl)) Via.refl eq1 P_F_a0_value (g := (mkF m 9 #[vR a0, vR a1, vI p2, vI 0] [(.ref a0)])) rfl rfl (own_e hby d12 5 rfl)
 refine qb st2 ?_
 refine qb (fun _ k => XS.iconst X2.here hx rfl (own_e hby d12 6 rfl) k) ?_
 refine qb (fun _ k => XS.aloadN X2.here hx rfl (own_e hby d12 7 rfl) rfl rfl k) ?_
 refine qb (fun _ k => XS.iloadN X2.here hx rfl (own_e hby d12 8 rfl) rfl k) ?_
 refine qb (fun _ k => XS.iloadN X2.here hx rfl (own_e hby d12 9 rfl) rfl k) ?_
 refine qb (fun _ k => XS.ishl X2.here hx rfl (own_e hby d12 10 rfl) rfl k) ?_
 show qG p e below _ (T2.setTop (mkF m 17 #[vR a0, vR a1, vI p2, vI 0] [(.int (p2 <<< ((0 : Int32) &&& 31))), (.ref a1), (.int 0), (.ref t_a0)]))
 rw [own_ishl0]
 show qG p e below _ (T2.setTop (mkF m 17 #[vR a0, vR a1, vI p2, vI 0] [(.int p2), (.ref a1), (.int 0), (.ref t_a0)]))
 refine qb (fun _ k => XS.aloadN X2.here hx rfl (own_e hby d12 11 rfl) rfl rfl k) ?_
 obtain ⟨T3, X3, e3, st3⟩ := getF X2 hx hZ hown (host := "") (Or.inl (hwd 51 rfl)) Via.refl e2 P_F_a0_value (g := (mkF m 18 #[vR a0, vR a1, vI p2, vI 0] [(.ref a0), (.int p2), (.ref a1), (.int 0), (.ref t_a0)])) rfl rfl (own_e hby d12 12 rfl)
 refine qb st3 ?_
 obtain ⟨cl4, Ar4, qq4, S4, M4, H4, G4⟩ := id P_V_t_a0
 refine qb (fun t k => X3.arraylength hx (by rw [e3]; exact Ar4.1) (State.isArrayOf_alike hZ.alike Ar4.2.1) (g := (mkF m 21 #[vR a0, vR a1, vI p2, vI 0] [(.ref t_a0), (.int p2), (.ref a1), (.int 0), (.ref t_a0)])) rfl rfl (own_e hby d12 13 rfl) _ k) ?_
 rw [len_of S4 M4]
 show qG p e below _ (T3.setTop (mkF m 22 #[vR a0, vR a1, vI p2, vI 0] [(.int n_t_a0), (.int p2), (.ref a1), (.int 0), (.ref t_a0)]))
 obtain ⟨T5, h5, L5, X5, e5, N5, Kq5, V5, st5⟩ := own_cpA X3 hx hZ hown (hwd 82 rfl) (hwd 85 rfl) (hwd 83 rfl) (hwd 84 rfl) e3 P_V_t_a0 P_V_a1 (by decide) (by decide) hp_1 hp_2 hp_3 hp_4 N1 g_a1 (g := (mkF m 22 #[vR a0, vR a1, vI p2, vI 0] [(.int n_t_a0), (.int p2), (.ref a1), (.int 0), (.ref t_a0)])) rfl (by rw [hml]; rfl) rfl (own_e hby d12 14 rfl) (by decide) (W := 0) (by show 2 * 0 + _ ≤ _; exact Nat.le_of_eq rfl) (by decide)
 have V5' : qA Z h5 a1 k_a1 .byte n_a1 (fun i => .int ((own_cp fn_t_a0 0 fn_a1 (p2).toNatClampNeg (n_t_a0).toNatClampNeg) i)) := by rw [← own_cpI]; exact V5
 have K5 : Keep h0 h5 [a1] := (Keep.refl h0 [a1]).trans Kq5 ((allS (Or.inl (List.mem_of_getElem? (i := 0) rfl)) all0))
 have Z5 := ql Z0 Kq5.1
 refine qb st5 ?_
 show qG p e below _ (T5.setTop (mkF m 25 #[vR a0, vR a1, vI p2, vI 0] []))
 refine qb (fun _ k => XS.goto X5.here hx rfl (pc0 := 25) (pc' := 43) rfl (own_e hby d12 15 rfl) (by decide) (by decide) k) ?_
 show qG p e below _ (T5.setTop (mkF m 43 #[vR a0, vR a1, vI p2, vI 0] []))
 exact own_ret0 X5 hx hrt (own_e hby d12 25 rfl) hlk e5 ⟨rfl, N5, K5, V5'⟩ (by decide) (by decide)
theorem ef_gb11 (m : MethodId) (a0 a1 : Addr) (p2 : Int32) : entryFrame m #[(.ref a0), (.ref a1), (.int p2), (.int 1)] 4 = mkF m 0 #[vR a0, vR a1, vI p2, vI 1] [] := rfl
def Qgb11 (Z : State) (t_a0 : Addr) (k_t_a0 : ClassId) (n_t_a0 : Int32) (fn_t_a0 : Nat → Int32) (k_a1 : ClassId) (n_a1 : Int32) (fn_a1 : Nat → Int32) (f_CS : Int32) (a0 a1 : Addr) (p2 : Int32) (h0 : Heap) (n0 : Nat) (v : Option Value) (h : Heap) (L : List Loc) : Prop := v = none ∧ Fr n0 L ∧ Keep h0 h [a1] ∧ qA Z h a1 k_a1 .byte n_a1 (fun i => .int ((own_cp fn_t_a0 0 fn_a1 ((p2 <<< ((1 : Int32) &&& 31))).toNatClampNeg (n_t_a0).toNatClampNeg) i))
theorem rmgb11 (l : Launch) (Z : State) (A0 : Array Value) (hw : ∀ d ∈ tables_1, d.before A0 Z = true) (ws : List Jvm.Cond) (t_a0 : Addr) (k_t_a0 : ClassId) (n_t_a0 : Int32) (fn_t_a0 : Nat → Int32) (k_a1 : ClassId) (n_a1 : Int32) (fn_a1 : Nat → Int32) (f_CS : Int32) (a0 a1 : Addr) (p2 : Int32) (h0 : Heap) (n0 : Nat) (Z0 : n0 ≤ h0.size) (P_E_a0 : Exa Z h0 a0 "java/lang/String") (P_F_a0_coder : Fld Z h0 a0 cS "coder" "B" (.int 1)) (P_F_a0_value : Fld Z h0 a0 cS "value" "[B" (.ref t_a0)) (P_V_t_a0 : qA Z h0 t_a0 k_t_a0 .byte n_t_a0 (fun i => .int (fn_t_a0 i))) (P_V_a1 : qA Z h0 a1 k_a1 .byte n_a1 (fun i => .int (fn_a1 i))) (P_S_CS : Sta Z h0 cS "COMPACT_STRINGS" "Z" (.int f_CS)) (hn_CS : ¬ (f_CS = (0 : Int32))) (hp_1 : ¬ (p2 <<< ((1 : Int32) &&& 31)) < 0) (hp_2 : ¬ n_t_a0 < 0) (hp_3 : ((0 : Int32)).toNatClampNeg + (n_t_a0).toNatClampNeg ≤ (n_t_a0).toNatClampNeg) (hp_4 : ((p2 <<< ((1 : Int32) &&& 31))).toNatClampNeg + (n_t_a0).toNatClampNeg ≤ (n_a1).toNatClampNeg) (g_a1 : n0 ≤ a1) :
  qM l Z (⟨"java/lang/String", "getBytes", "([BIB)V"⟩ : MethodName) jdk_42_method_147_code 4 none ws ({ frames := 1, cells := 0, slots := 0, locals := 30 } : Room) #[(.ref a0), (.ref a1), (.int p2), (.int 1)] h0 (Qgb11 Z t_a0 k_t_a0 n_t_a0 fn_t_a0 k_a1 n_a1 fn_a1 f_CS a0 a1 p2 h0 n0) 0 0 := own_enter (plainFor_of_name pn_si4L) (fun m => ef_gb11 m a0 a1 p2) fun p e s m below meth c s₁ hx hby hml hlk hown hnm X0 e0 hZ hrt => by
 have hwd := qw hw
 have N0 := Fr.nil n0
 show qG p e below _ (s₁.setTop (mkF m 0 #[vR a0, vR a1, vI p2, vI 1] []))
 refine qb (fun _ k => XS.aloadN X0.here hx rfl (own_e hby d12 0 rfl) rfl rfl k) ?_
 obtain ⟨_, T1, Lc1, X1, hQ1, st1⟩ := own_cV X0 hx hZ hown hml (rmcoder1 l Z A0 hw [] f_CS a0 h0 n0 Z0 P_E_a0 P_F_a0_coder P_S_CS hn_CS) (hwd 52 rfl) (hwd 54 rfl) (hwd 1 rfl) (hwd 56 rfl) (by decide) pd_52 e0 (hwd 53 rfl) (hwd 55 rfl) P_E_a0 (g := (mkF m 1 #[vR a0, vR a1, vI p2, vI 1] [(.ref a0)])) (rest := []) rfl rfl rfl rfl (own_e hby d12 1 rfl) rfl
 obtain ⟨rfl, Nq1, eq1⟩ := hQ1
 have N1 := Fr.app N0 Nq1
 refine qb st1 ?_
 show qG p e below _ (T1.setTop (mkF m 4 #[vR a0, vR a1, vI p2, vI 1] [(.int 1)]))
 refine qb (fun _ k => XS.iloadN X1.here hx rfl (own_e hby d12 2 rfl) rfl k) ?_
 refine qb (fun _ k => XS.icmpNo X1.here hx rfl (own_e hby d12 3 rfl) rfl (teq (by decide : (1 : Int32) = (1 : Int32))).2 k) ?_
 show qG p e below _ (T1.setTop (mkF m 8 #[vR a0, vR a1, vI p2, vI 1] []))
 refine qb (fun _ k => XS.aloadN X1.here hx rfl (own_e hby d12 4 rfl) rfl rfl k) ?_
 obtain ⟨T2, X2, e2, st2⟩ := getF X1 hx hZ hown (host := "") (Or.inl (hwd 51 rfl)) Via.refl eq1 P_F_a0_value (g := (mkF m 9 #[vR a0, vR a1, vI p2, vI 1] [(.ref a0)])) rfl rfl (own_e hby d12 5 rfl)
 refine qb st2 ?_
 refine qb (fun _ k => XS.iconst X2.here hx rfl (own_e hby d12 6 rfl) k) ?_
 refine qb (fun _ k => XS.aloadN X2.here hx rfl (own_e hby d12 7 rfl) rfl rfl k) ?_
 refine qb (fun _ k => XS.iloadN X2.here hx rfl (own_e hby d12 8 rfl) rfl k) ?_
 refine qb (fun _ k => XS.iloadN X2.here hx rfl (own_e hby d12 9 rfl) rfl k) ?_
 refine qb (fun _ k => XS.ishl X2.here hx rfl (own_e hby d12 10 rfl) rfl k) ?_
 refine qb (fun _ k => XS.aloadN X2.here hx rfl (own_e hby d12 11 rfl) rfl rfl k) ?_
 obtain ⟨T3, X3, e3, st3⟩ := getF X2 hx hZ hown (host := "") (Or.inl (hwd 51 rfl)) Via.refl e2 P_F_a0_value (g := (mkF m 18 #[vR a0, vR a1, vI p2, vI 1] [(.ref a0), (.int (p2 <<< ((1 : Int32) &&& 31))), (.ref a1), (.int 0), (.ref t_a0)])) rfl rfl (own_e hby d12 12 rfl)
 refine qb st3 ?_
 obtain ⟨cl4, Ar4, qq4, S4, M4, H4, G4⟩ := id P_V_t_a0
 refine qb (fun t k => X3.arraylength hx (by rw [e3]; exact Ar4.1) (State.isArrayOf_alike hZ.alike Ar4.2.1) (g := (mkF m 21 #[vR a0, vR a1, vI p2, vI 1] [(.ref t_a0), (.int (p2 <<< ((1 : Int32) &&& 31))), (.ref a1), (.int 0), (.ref t_a0)])) rfl rfl (own_e hby d12 13 rfl) _ k) ?_
 rw [len_of S4 M4]
 show qG p e below _ (T3.setTop (mkF m 22 #[vR a0, vR a1, vI p2, vI 1] [(.int n_t_a0), (.int (p2 <<< ((1 : Int32) &&& 31))), (.ref a1), (.int 0), (.ref t_a0)]))
 obtain ⟨T5, h5, L5, X5, e5, N5, Kq5, V5, st5⟩ := own_cpA X3 hx hZ hown (hwd 82 rfl) (hwd 85 rfl) (hwd 83 rfl) (hwd 84 rfl) e3 P_V_t_a0 P_V_a1 (by decide) (by decide) hp_1 hp_2 hp_3 hp_4 N1 g_a1 (g := (mkF m 22 #[vR a0, vR a1, vI p2, vI 1] [(.int n_t_a0), (.int (p2 <<< ((1 : Int32) &&& 31))), (.ref a1), (.int 0), (.ref t_a0)])) rfl (by rw [hml]; rfl) rfl (own_e hby d12 14 rfl) (by decide) (W := 0) (by show 2 * 0 + _ ≤ _; exact Nat.le_of_eq rfl) (by decide)
 have V5' : qA Z h5 a1 k_a1 .byte n_a1 (fun i => .int ((own_cp fn_t_a0 0 fn_a1 ((p2 <<< ((1 : Int32) &&& 31))).toNatClampNeg (n_t_a0).toNatClampNeg) i)) := by rw [← own_cpI]; exact V5
 have K5 : Keep h0 h5 [a1] := (Keep.refl h0 [a1]).trans Kq5 ((allS (Or.inl (List.mem_of_getElem? (i := 0) rfl)) all0))
 have Z5 := ql Z0 Kq5.1
 refine qb st5 ?_
 show qG p e below _ (T5.setTop (mkF m 25 #[vR a0, vR a1, vI p2, vI 1] []))
 refine qb (fun _ k => XS.goto X5.here hx rfl (pc0 := 25) (pc' := 43) rfl (own_e hby d12 15 rfl) (by decide) (by decide) k) ?_
 show qG p e below _ (T5.setTop (mkF m 43 #[vR a0, vR a1, vI p2, vI 1] []))
 exact own_ret0 X5 hx hrt (own_e hby d12 25 rfl) hlk e5 ⟨rfl, N5, K5, V5'⟩ (by decide) (by decide)
theorem ef_gb01 (m : MethodId) (a0 a1 : Addr) (p2 : Int32) : entryFrame m #[(.ref a0), (.ref a1), (.int p2), (.int 1)] 4 = mkF m 0 #[vR a0, vR a1, vI p2, vI 1] [] := rfl
def Qgb01 (Z : State) (t_a0 : Addr) (k_t_a0 : ClassId) (n_t_a0 : Int32) (fn_t_a0 : Nat → Int32) (k_a1 : ClassId) (n_a1 : Int32) (fn_a1 : Nat → Int32) (f_CS : Int32) (f_SF : Value) (a0 a1 : Addr) (p2 : Int32) (h0 : Heap) (n0 : Nat) (v : Option Value) (h : Heap) (L : List Loc) : Prop := ∃ (gg5001 : Nat → Int32), v = none ∧ Fr n0 L ∧ Keep h0 h [a1] ∧ qA Z h a1 k_a1 .byte n_a1 (fun i => .int (gg5001 i)) ∧ ((∃ (b6_gb01 : Nat → Int32), ((∃ (b2_slL : Nat → Int32), (own_inf fn_t_a0 fn_a1 b2_slL (p2).toNatClampNeg (n_t_a0).toNatClampNeg) ∧ b6_gb01 = b2_slL)) ∧ gg5001 = b6_gb01))
theorem rmgb01 (l : Launch) (Z : State) (A0 : Array Value) (hw : ∀ d ∈ tables_1, d.before A0 Z = true) (ws : List Jvm.Cond) (t_a0 : Addr) (k_t_a0 : ClassId) (n_t_a0 : Int32) (fn_t_a0 : Nat → Int32) (k_a1 : ClassId) (n_a1 : Int32) (fn_a1 : Nat → Int32) (f_CS : Int32) (f_SF : Value) (a0 a1 : Addr) (p2 : Int32) (h0 : Heap) (n0 : Nat) (Z0 : n0 ≤ h0.size) (P_E_a0 : Exa Z h0 a0 "java/lang/String") (P_F_a0_coder : Fld Z h0 a0 cS "coder" "B" (.int 0)) (P_F_a0_value : Fld Z h0 a0 cS "value" "[B" (.ref t_a0)) (P_V_t_a0 : qA Z h0 t_a0 k_t_a0 .byte n_t_a0 (fun i => .int (fn_t_a0 i))) (P_V_a1 : qA Z h0 a1 k_a1 .byte n_a1 (fun i => .int (fn_a1 i))) (P_S_CS : Sta Z h0 cS "COMPACT_STRINGS" "Z" (.int f_CS)) (hn_CS : ¬ (f_CS = (0 : Int32))) (P_S_SF : Sta Z h0 "jdk/internal/util/Preconditions" "SIOOBE_FORMATTER" "Ljava/util/function/BiFunction;" f_SF) (hr_f_SF : f_SF.isRef = true) (P_S_UD : Sta Z h0 cU "$assertionsDisabled" "Z" (.int 1)) (P_S_HI_BYTE_SHIFT : Sta Z h0 cU "HI_BYTE_SHIFT" "I" (.int 0)) (P_S_LO_BYTE_SHIFT : Sta Z h0 cU "LO_BYTE_SHIFT" "I" (.int 8)) (hb : 0 ≤ (p2).toInt ∧ 0 ≤ (n_t_a0).toInt ∧ (p2).toInt + (n_t_a0).toInt ≤ 48 ∧ 2 * ((p2).toInt + (n_t_a0).toInt) ≤ (n_a1).toInt) (hp_3 : ¬ ((((n_a1 >>> ((1 : Int32) &&& 31)) ||| p2) ||| n_t_a0) < (0 : Int32))) (hp_4 : ¬ (((n_a1 >>> ((1 : Int32) &&& 31)) - p2) < n_t_a0)) (ne_t_a0_a1 : t_a0 ≠ a1) (g_a1 : n0 ≤ a1) :
  qM l Z (⟨"java/lang/String", "getBytes", "([BIB)V"⟩ : MethodName) jdk_42_method_147_code 4 none ws ({ frames := 5, cells := 0, slots := 0, locals := 76 } : Room) #[(.ref a0), (.ref a1), (.int p2), (.int 1)] h0 (Qgb01 Z t_a0 k_t_a0 n_t_a0 fn_t_a0 k_a1 n_a1 fn_a1 f_CS f_SF a0 a1 p2 h0 n0) 0 0 := own_enter (plainFor_of_name pn_si4L) (fun m => ef_gb01 m a0 a1 p2) fun p e s m below meth c s₁ hx hby hml hlk hown hnm X0 e0 hZ hrt => by
 have hwd := qw hw
 have N0 := Fr.nil n0
 show qG p e below _ (s₁.setTop (mkF m 0 #[vR a0, vR a1, vI p2, vI 1] []))
 refine qb (fun _ k => XS.aloadN X0.here hx rfl (own_e hby d12 0 rfl) rfl rfl k) ?_
 obtain ⟨_, T1, Lc1, X1, hQ1, st1⟩ := own_cV X0 hx hZ hown hml (rmcoder0 l Z A0 hw [] f_CS a0 h0 n0 Z0 P_E_a0 P_F_a0_coder P_S_CS hn_CS) (hwd 52 rfl) (hwd 54 rfl) (hwd 1 rfl) (hwd 56 rfl) (by decide) pd_52 e0 (hwd 53 rfl) (hwd 55 rfl) P_E_a0 (g := (mkF m 1 #[vR a0, vR a1, vI p2, vI 1] [(.ref a0)])) (rest := []) rfl rfl rfl rfl (own_e hby d12 1 rfl) rfl
 obtain ⟨rfl, Nq1, eq1⟩ := hQ1
 have N1 := Fr.app N0 Nq1
 refine qb st1 ?_
 show qG p e below _ (T1.setTop (mkF m 4 #[vR a0, vR a1, vI p2, vI 1] [(.int 0)]))
 refine qb (fun _ k => XS.iloadN X1.here hx rfl (own_e hby d12 2 rfl) rfl k) ?_
 refine qb (fun _ k => XS.icmpYes X1.here hx rfl (pc0 := 5) (pc' := 28) rfl (own_e hby d12 3 rfl) rfl (feq (by decide : ¬ ((0 : Int32) = (1 : Int32)))).2 (by decide) (by decide) k) ?_
 show qG p e below _ (T1.setTop (mkF m 28 #[vR a0, vR a1, vI p2, vI 1] []))
 refine qb (fun _ k => XS.aloadN X1.here hx rfl (own_e hby d12 16 rfl) rfl rfl k) ?_
 obtain ⟨T2, X2, e2, st2⟩ := getF X1 hx hZ hown (host := "") (Or.inl (hwd 51 rfl)) Via.refl eq1 P_F_a0_value (g := (mkF m 29 #[vR a0, vR a1, vI p2, vI 1] [(.ref a0)])) rfl rfl (own_e hby d12 17 rfl)
 refine qb st2 ?_
 refine qb (fun _ k => XS.iconst X2.here hx rfl (own_e hby d12 18 rfl) k) ?_
 refine qb (fun _ k => XS.aloadN X2.here hx rfl (own_e hby d12 19 rfl) rfl rfl k) ?_
 refine qb (fun _ k => XS.iloadN X2.here hx rfl (own_e hby d12 20 rfl) rfl k) ?_
 refine qb (fun _ k => XS.aloadN X2.here hx rfl (own_e hby d12 21 rfl) rfl rfl k) ?_
 obtain ⟨T3, X3, e3, st3⟩ := getF X2 hx hZ hown (host := "") (Or.inl (hwd 51 rfl)) Via.refl e2 P_F_a0_value (g := (mkF m 36 #[vR a0, vR a1, vI p2, vI 1] [(.ref a0), (.int p2), (.ref a1), (.int 0), (.ref t_a0)])) rfl rfl (own_e hby d12 22 rfl)
 refine qb st3 ?_
 obtain ⟨cl4, Ar4, qq4, S4, M4, H4, G4⟩ := id P_V_t_a0
 refine qb (fun t k => X3.arraylength hx (by rw [e3]; exact Ar4.1) (State.isArrayOf_alike hZ.alike Ar4.2.1) (g := (mkF m 39 #[vR a0, vR a1, vI p2, vI 1] [(.ref t_a0), (.int p2), (.ref a1), (.int 0), (.ref t_a0)])) rfl rfl (own_e hby d12 23 rfl) _ k) ?_
 rw [len_of S4 M4]
 show qG p e below _ (T3.setTop (mkF m 40 #[vR a0, vR a1, vI p2, vI 1] [(.int n_t_a0), (.int p2), (.ref a1), (.int 0), (.ref t_a0)]))
 obtain ⟨_, T5, Lc5, X5, hQ5, st5⟩ := own_cS X3 hx hZ hown hml (rmslL l Z A0 hw [] k_t_a0 fn_t_a0 k_a1 n_a1 fn_a1 f_SF t_a0 a1 p2 n_t_a0 h0 n0 Z0 P_V_t_a0 P_V_a1 P_S_SF hr_f_SF P_S_UD P_S_HI_BYTE_SHIFT P_S_LO_BYTE_SHIFT hb hp_3 hp_4 ne_t_a0_a1 g_a1) (hwd 297 rfl) (hwd 278 rfl) (hwd 231 rfl) (hwd 279 rfl) (by decide) pd_277 e3 (g := (mkF m 40 #[vR a0, vR a1, vI p2, vI 1] [(.int n_t_a0), (.int p2), (.ref a1), (.int 0), (.ref t_a0)])) (rest := []) rfl rfl rfl rfl (own_e hby d12 24 rfl) rfl
 obtain ⟨b6, rfl, Nq5, Kq5, F7, hp8⟩ := hQ5
 have N5 := Fr.app N1 Nq5
 have K5 : Keep h0 T5.heap [a1] := (Keep.refl h0 [a1]).trans Kq5 ((allS (Or.inl (List.mem_of_getElem? (i := 0) rfl)) all0))
 have Z5 := ql Z0 Kq5.1
 refine qb st5 ?_
 show qG p e below _ (T5.setTop (mkF m 43 #[vR a0, vR a1, vI p2, vI 1] []))
 exact own_ret0 X5 hx hrt (own_e hby d12 25 rfl) hlk rfl ⟨b6, rfl, N5, K5, F7, ⟨b6, hp8, rfl⟩⟩ (by decide) (by decide)
theorem pd_71 : parseMethodDescriptor "(Ljava/lang/String;)V" = some ⟨[(.object "java/lang/String")], none⟩ := by decide +kernel
theorem pd_77 : parseMethodDescriptor "([BIB)V" = some ⟨[(.array .byte), .int, .byte], none⟩ := by decide +kernel
theorem d10 : own_ds jdk_68_method_73_code [(0, .aload_n 0, 1), (1, .aload_n 2, 1), (2, .invokevirtual 397, 3), (5, .aload_n 2, 1), (6, .aload_n 0, 1), (7, .getfield 15, 3), (10, .iload_n 1, 1), (11, .aload_n 0, 1), (12, .getfield 22, 3), (15, .invokevirtual 399, 3), (18, .return_, 1)] = true := by decide +kernel
theorem ef_ps00 (m : MethodId) (a0 : Addr) (p1 : Int32) (a2 : Addr) : entryFrame m #[(.ref a0), (.int p1), (.ref a2)] 3 = mkF m 0 #[vR a0, vI p1, vR a2] [] := rfl
def Qps00 (Z : State) (t_a0 : Addr) (c_a0 : Int32) (k_t_a0 : ClassId) (n_t_a0 : Int32) (fn_t_a0 : Nat → Int32) (t_a2 : Addr) (k_t_a2 : ClassId) (n_t_a2 : Int32) (fn_t_a2 : Nat → Int32) (f_CS : Int32) (a0 : Addr) (p1 : Int32) (a2 : Addr) (h0 : Heap) (n0 : Nat) (v : Option Value) (h : Heap) (L : List Loc) : Prop := v = none ∧ Fr n0 L ∧ Keep h0 h [t_a0] ∧ qA Z h t_a0 k_t_a0 .byte n_t_a0 (fun i => .int ((own_cp fn_t_a2 0 fn_t_a0 (p1).toNatClampNeg (n_t_a2).toNatClampNeg) i))
theorem rmps00 (l : Launch) (Z : State) (A0 : Array Value) (hw : ∀ d ∈ tables_1, d.before A0 Z = true) (ws : List Jvm.Cond) (t_a0 : Addr) (c_a0 : Int32) (k_t_a0 : ClassId) (n_t_a0 : Int32) (fn_t_a0 : Nat → Int32) (t_a2 : Addr) (k_t_a2 : ClassId) (n_t_a2 : Int32) (fn_t_a2 : Nat → Int32) (f_CS : Int32) (a0 : Addr) (p1 : Int32) (a2 : Addr) (h0 : Heap) (n0 : Nat) (Z0 : n0 ≤ h0.size) (P_E_a0 : Exa Z h0 a0 "java/lang/StringBuilder") (P_F_a0_coder : Fld Z h0 a0 cA "coder" "B" (.int 0)) (P_F_a0_value : Fld Z h0 a0 cA "value" "[B" (.ref t_a0)) (P_F_a0_count : Fld Z h0 a0 cA "count" "I" (.int c_a0)) (P_V_t_a0 : qA Z h0 t_a0 k_t_a0 .byte n_t_a0 (fun i => .int (fn_t_a0 i))) (P_E_a2 : Exa Z h0 a2 "java/lang/String") (P_F_a2_coder : Fld Z h0 a2 cS "coder" "B" (.int 0)) (P_F_a2_value : Fld Z h0 a2 cS "value" "[B" (.ref t_a2)) (P_V_t_a2 : qA Z h0 t_a2 k_t_a2 .byte n_t_a2 (fun i => .int (fn_t_a2 i))) (P_S_CS : Sta Z h0 cS "COMPACT_STRINGS" "Z" (.int f_CS)) (hn_CS : ¬ (f_CS = (0 : Int32))) (hp_1 : ¬ p1 < 0) (hp_2 : ¬ n_t_a2 < 0) (hp_3 : 0 + (n_t_a2).toNatClampNeg ≤ (n_t_a2).toNatClampNeg) (hp_4 : (p1).toNatClampNeg + (n_t_a2).toNatClampNeg ≤ (n_t_a0).toNatClampNeg) (g_t_a0 : n0 ≤ t_a0) :
  qM l Z (⟨"java/lang/AbstractStringBuilder", "putStringAt", "(ILjava/lang/String;)V"⟩ : MethodName) jdk_68_method_73_code 3 none ws ({ frames := 2, cells := 0, slots := 0, locals := 45 } : Room) #[(.ref a0), (.int p1), (.ref a2)] h0 (Qps00 Z t_a0 c_a0 k_t_a0 n_t_a0 fn_t_a0 t_a2 k_t_a2 n_t_a2 fn_t_a2 f_CS a0 p1 a2 h0 n0) 0 0 := own_enter (plainFor_of_name pn_isl0) (fun m => ef_ps00 m a0 p1 a2) fun p e s m below meth c s₁ hx hby hml hlk hown hnm X0 e0 hZ hrt => by
 have hwd := qw hw
 have N0 := Fr.nil n0
 show qG p e below _ (s₁.setTop (mkF m 0 #[vR a0, vI p1, vR a2] []))
 refine qb (fun _ k => XS.aloadN X0.here hx rfl (own_e hby d10 0 rfl) rfl rfl k) ?_
 refine qb (fun _ k => XS.aloadN X0.here hx rfl (own_e hby d10 1 rfl) rfl rfl k) ?_
 obtain ⟨_, T1, Lc1, X1, hQ1, st1⟩ := own_cP X0 hx hZ hown hml (rmii00 l Z A0 hw [] f_CS a0 a2 h0 n0 Z0 P_E_a0 P_F_a0_coder P_E_a2 P_F_a2_coder P_S_CS hn_CS) (hwd 71 rfl) (hwd 72 rfl) (hwd 26 rfl) (hwd 75 rfl) (by decide) pd_71 e0 (hwd 73 rfl) (own_selPriv2 hZ (hwd 74 rfl) (hwd 73 rfl) (hwd 72 rfl) (by decide)) P_E_a0 (g := (mkF m 2 #[vR a0, vI p1, vR a2] [(.ref a2), (.ref a0)])) (rest := []) rfl rfl rfl rfl (own_e hby d10 2 rfl) rfl
 obtain ⟨rfl, Nq1, eq1⟩ := hQ1
 have N1 := Fr.app N0 Nq1
 refine qb st1 ?_
 show qG p e below _ (T1.setTop (mkF m 5 #[vR a0, vI p1, vR a2] []))
 refine qb (fun _ k => XS.aloadN X1.here hx rfl (own_e hby d10 3 rfl) rfl rfl k) ?_
 refine qb (fun _ k => XS.aloadN X1.here hx rfl (own_e hby d10 4 rfl) rfl rfl k) ?_
 obtain ⟨T2, X2, e2, st2⟩ := getF X1 hx hZ hown (host := "") (Or.inl (hwd 32 rfl)) Via.refl eq1 P_F_a0_value (g := (mkF m 7 #[vR a0, vI p1, vR a2] [(.ref a0), (.ref a2)])) rfl rfl (own_e hby d10 5 rfl)
 refine qb st2 ?_
 refine qb (fun _ k => XS.iloadN X2.here hx rfl (own_e hby d10 6 rfl) rfl k) ?_
 refine qb (fun _ k => XS.aloadN X2.here hx rfl (own_e hby d10 7 rfl) rfl rfl k) ?_
 obtain ⟨T3, X3, e3, st3⟩ := getF X2 hx hZ hown (host := "") (Or.inl (hwd 34 rfl)) Via.refl e2 P_F_a0_coder (g := (mkF m 12 #[vR a0, vI p1, vR a2] [(.ref a0), (.int p1), (.ref t_a0), (.ref a2)])) rfl rfl (own_e hby d10 8 rfl)
 refine qb st3 ?_
 obtain ⟨_, T4, Lc4, X4, hQ4, st4⟩ := own_cV X3 hx hZ hown hml (rmgb00 l Z A0 hw [] t_a2 k_t_a2 n_t_a2 fn_t_a2 k_t_a0 n_t_a0 fn_t_a0 f_CS a2 t_a0 p1 h0 n0 Z0 P_E_a2 P_F_a2_coder P_F_a2_value P_V_t_a2 P_V_t_a0 P_S_CS hn_CS hp_1 hp_2 hp_3 hp_4 g_t_a0) (hwd 77 rfl) (hwd 79 rfl) (hwd 1 rfl) (hwd 81 rfl) (by decide) pd_77 e3 (hwd 78 rfl) (hwd 80 rfl) P_E_a2 (g := (mkF m 15 #[vR a0, vI p1, vR a2] [(.int 0), (.int p1), (.ref t_a0), (.ref a2)])) (rest := []) rfl rfl rfl rfl (own_e hby d10 9 rfl) rfl
 obtain ⟨rfl, Nq4, Kq4, F5⟩ := hQ4
 have N4 := Fr.app N1 Nq4
 have K4 : Keep h0 T4.heap [t_a0] := (Keep.refl h0 [t_a0]).trans Kq4 ((allS (Or.inl (List.mem_of_getElem? (i := 0) rfl)) all0))
 have Z4 := ql Z0 Kq4.1
 refine qb st4 ?_
 show qG p e below _ (T4.setTop (mkF m 18 #[vR a0, vI p1, vR a2] []))
 exact own_ret0 X4 hx hrt (own_e hby d10 10 rfl) hlk rfl ⟨rfl, N4, K4, F5⟩ (by decide) (by decide)
theorem ef_ps01 (m : MethodId) (a0 : Addr) (p1 : Int32) (a2 : Addr) : entryFrame m #[(.ref a0), (.int p1), (.ref a2)] 3 = mkF m 0 #[vR a0, vI p1, vR a2] [] := rfl
def Qps01 (Z : State) (t_a0 : Addr) (k_t_a0 : ClassId) (n_t_a0 : Int32) (fn_t_a0 : Nat → Int32) (t_a2 : Addr) (k_t_a2 : ClassId) (n_t_a2 : Int32) (fn_t_a2 : Nat → Int32) (f_CS : Int32) (f_SF : Value) (a0 : Addr) (p1 : Int32) (a2 : Addr) (f_a0_maybeLatin1 : Int32) (h0 : Heap) (n0 : Nat) (v : Option Value) (h : Heap) (L : List Loc) : Prop := ∃ (b2 : Addr) (b3 : ClassId), v = none ∧ Fr n0 L ∧ Keep h0 h [a0] ∧ Exa Z h a0 "java/lang/StringBuilder" ∧ Fld Z h a0 cA "coder" "B" (.int 1) ∧ Fld Z h a0 cA "value" "[B" (.ref b2) ∧ Fld Z h a0 cA "count" "I" (.int 0) ∧ Fld Z h a0 cA "maybeLatin1" "Z" (.int f_a0_maybeLatin1) ∧ (n0 ≤ b2) ∧ (h0.size ≤ b2) ∧ Exa Z h b2 "[B" ∧ qA Z h b2 b3 .byte (n_t_a0 <<< ((1 : Int32) &&& 31)) (fun i => .int ((own_cp fn_t_a2 0 (fun _ => (0 : Int32)) ((p1 <<< ((1 : Int32) &&& 31))).toNatClampNeg (n_t_a2).toNatClampNeg) i))
theorem rmps01 (l : Launch) (Z : State) (A0 : Array Value) (hw : ∀ d ∈ tables_1, d.before A0 Z = true) (ws : List Jvm.Cond) (t_a0 : Addr) (k_t_a0 : ClassId) (n_t_a0 : Int32) (fn_t_a0 : Nat → Int32) (t_a2 : Addr) (k_t_a2 : ClassId) (n_t_a2 : Int32) (fn_t_a2 : Nat → Int32) (f_CS : Int32) (f_SF : Value) (a0 : Addr) (p1 : Int32) (a2 : Addr) (f_a0_maybeLatin1 : Int32) (h0 : Heap) (n0 : Nat) (Z0 : n0 ≤ h0.size) (P_E_a0 : Exa Z h0 a0 "java/lang/StringBuilder") (P_F_a0_coder : Fld Z h0 a0 cA "coder" "B" (.int 0)) (P_F_a0_value : Fld Z h0 a0 cA "value" "[B" (.ref t_a0)) (P_F_a0_count : Fld Z h0 a0 cA "count" "I" (.int 0)) (P_V_t_a0 : qA Z h0 t_a0 k_t_a0 .byte n_t_a0 (fun i => .int (fn_t_a0 i))) (P_E_a2 : Exa Z h0 a2 "java/lang/String") (P_F_a2_coder : Fld Z h0 a2 cS "coder" "B" (.int 1)) (P_F_a2_value : Fld Z h0 a2 cS "value" "[B" (.ref t_a2)) (P_V_t_a2 : qA Z h0 t_a2 k_t_a2 .byte n_t_a2 (fun i => .int (fn_t_a2 i))) (P_S_CS : Sta Z h0 cS "COMPACT_STRINGS" "Z" (.int f_CS)) (hn_CS : ¬ (f_CS = (0 : Int32))) (P_S_SF : Sta Z h0 "jdk/internal/util/Preconditions" "SIOOBE_FORMATTER" "Ljava/util/function/BiFunction;" f_SF) (hr_f_SF : f_SF.isRef = true) (P_F_a0_maybeLatin1 : Fld Z h0 a0 cA "maybeLatin1" "Z" (.int f_a0_maybeLatin1)) (hp_2 : ¬ (n_t_a0 < (0 : Int32))) (hp_3 : n_t_a0 < (1073741823 : Int32)) (hp_4 : ¬ ((n_t_a0 <<< ((1 : Int32) &&& 31)) < (0 : Int32))) (hp_5 : ((n_t_a0 <<< ((1 : Int32) &&& 31))).toNatClampNeg ≤ 96) (hp_6 : ¬ (((((n_t_a0 <<< ((1 : Int32) &&& 31)) >>> ((1 : Int32) &&& 31)) ||| (0 : Int32)) ||| (0 : Int32)) < (0 : Int32))) (hp_7 : ¬ ((((n_t_a0 <<< ((1 : Int32) &&& 31)) >>> ((1 : Int32) &&& 31)) - (0 : Int32)) < (0 : Int32))) (g_a0 : n0 ≤ a0) (hp_9 : ¬ (p1 <<< ((1 : Int32) &&& 31)) < 0) (hp_10 : ¬ n_t_a2 < 0) (hp_11 : 0 + (n_t_a2).toNatClampNeg ≤ (n_t_a2).toNatClampNeg) (hp_12 : ((p1 <<< ((1 : Int32) &&& 31))).toNatClampNeg + (n_t_a2).toNatClampNeg ≤ ((n_t_a0 <<< ((1 : Int32) &&& 31))).toNatClampNeg) :
  qM l Z (⟨"java/lang/AbstractStringBuilder", "putStringAt", "(ILjava/lang/String;)V"⟩ : MethodName) jdk_68_method_73_code 3 none ws ({ frames := 7, cells := 1, slots := 96, locals := 102 } : Room) #[(.ref a0), (.int p1), (.ref a2)] h0 (Qps01 Z t_a0 k_t_a0 n_t_a0 fn_t_a0 t_a2 k_t_a2 n_t_a2 fn_t_a2 f_CS f_SF a0 p1 a2 f_a0_maybeLatin1 h0 n0) 1 96 := own_enter (plainFor_of_name pn_isl0) (fun m => ef_ps01 m a0 p1 a2) fun p e s m below meth c s₁ hx hby hml hlk hown hnm X0 e0 hZ hrt => by
 have hwd := qw hw
 have N0 := Fr.nil n0
 show qG p e below _ (s₁.setTop (mkF m 0 #[vR a0, vI p1, vR a2] []))
 refine qb (fun _ k => XS.aloadN X0.here hx rfl (own_e hby d10 0 rfl) rfl rfl k) ?_
 refine qb (fun _ k => XS.aloadN X0.here hx rfl (own_e hby d10 1 rfl) rfl rfl k) ?_
 obtain ⟨_, T1, Lc1, X1, hQ1, st1⟩ := own_cP X0 hx hZ hown hml (rmii01 l Z A0 hw [] t_a0 k_t_a0 n_t_a0 fn_t_a0 f_CS f_SF a0 a2 f_a0_maybeLatin1 h0 n0 Z0 P_E_a0 P_F_a0_coder P_F_a0_value P_F_a0_count P_V_t_a0 P_E_a2 P_F_a2_coder P_S_CS hn_CS P_S_SF hr_f_SF P_F_a0_maybeLatin1 hp_2 hp_3 hp_4 hp_5 hp_6 hp_7 g_a0) (hwd 71 rfl) (hwd 72 rfl) (hwd 26 rfl) (hwd 75 rfl) (by decide) pd_71 e0 (hwd 73 rfl) (own_selPriv2 hZ (hwd 74 rfl) (hwd 73 rfl) (hwd 72 rfl) (by decide)) P_E_a0 (g := (mkF m 2 #[vR a0, vI p1, vR a2] [(.ref a2), (.ref a0)])) (rest := []) rfl rfl rfl rfl (own_e hby d10 2 rfl) rfl
 obtain ⟨b2, b3, rfl, Nq1, Kq1, F4, F5, F6, F7, F8, hp9, hp10, F11, F12⟩ := hQ1
 have N1 := Fr.app N0 Nq1
 have K1 : Keep h0 T1.heap [a0] := (Keep.refl h0 [a0]).trans Kq1 ((allS (Or.inl (List.mem_of_getElem? (i := 0) rfl)) all0))
 have Z1 := ql Z0 Kq1.1
 have sz_b2 := ql (Keep.refl h0 [a0]).1 hp10
 refine qb st1 ?_
 show qG p e below _ (T1.setTop (mkF m 5 #[vR a0, vI p1, vR a2] []))
 refine qb (fun _ k => XS.aloadN X1.here hx rfl (own_e hby d10 3 rfl) rfl rfl k) ?_
 refine qb (fun _ k => XS.aloadN X1.here hx rfl (own_e hby d10 4 rfl) rfl rfl k) ?_
 obtain ⟨T13, X13, e13, st13⟩ := getF X1 hx hZ hown (host := "") (Or.inl (hwd 32 rfl)) Via.refl rfl F6 (g := (mkF m 7 #[vR a0, vI p1, vR a2] [(.ref a0), (.ref a2)])) rfl rfl (own_e hby d10 5 rfl)
 refine qb st13 ?_
 refine qb (fun _ k => XS.iloadN X13.here hx rfl (own_e hby d10 6 rfl) rfl k) ?_
 refine qb (fun _ k => XS.aloadN X13.here hx rfl (own_e hby d10 7 rfl) rfl rfl k) ?_
 obtain ⟨T14, X14, e14, st14⟩ := getF X13 hx hZ hown (host := "") (Or.inl (hwd 34 rfl)) Via.refl e13 F5 (g := (mkF m 12 #[vR a0, vI p1, vR a2] [(.ref a0), (.int p1), (.ref b2), (.ref a2)])) rfl rfl (own_e hby d10 8 rfl)
 refine qb st14 ?_
 have F15 := (P_E_a2.keep Kq1)
 have F16 := (P_F_a2_coder.keep Kq1 (ninS (ne_exa F15 F4 (by decide)) nin0))
 have F17 := (P_F_a2_value.keep Kq1 (ninS (ne_exa F15 F4 (by decide)) nin0))
 have F18 := (P_V_t_a2.keep Kq1 (ninS (Ne.symm (own_neArr P_E_a0 (hwd 17 rfl) P_V_t_a2)) nin0))
 have F19 := qk P_S_CS Kq1 (allS (qx P_E_a0) all0)
 obtain ⟨_, T20, Lc20, X20, hQ20, st20⟩ := own_cV X14 hx hZ hown hml (rmgb11 l Z A0 hw [] t_a2 k_t_a2 n_t_a2 fn_t_a2 b3 (n_t_a0 <<< ((1 : Int32) &&& 31)) (fun _ => (0 : Int32)) f_CS a2 b2 p1 T1.heap n0 Z1 F15 F16 F17 F18 F12 F19 hn_CS hp_9 hp_10 hp_11 hp_12 hp9) (hwd 77 rfl) (hwd 79 rfl) (hwd 1 rfl) (hwd 81 rfl) (by decide) pd_77 e14 (hwd 78 rfl) (hwd 80 rfl) F15 (g := (mkF m 15 #[vR a0, vI p1, vR a2] [(.int 1), (.int p1), (.ref b2), (.ref a2)])) (rest := []) rfl rfl rfl rfl (own_e hby d10 9 rfl) rfl
 obtain ⟨rfl, Nq20, Kq20, F21⟩ := hQ20
 have N20 := Fr.app N1 Nq20
 have K20 : Keep h0 T20.heap [a0] := K1.trans Kq20 ((allS (Or.inr sz_b2) all0))
 have Z20 := ql Z1 Kq20.1
 refine qb st20 ?_
 show qG p e below _ (T20.setTop (mkF m 18 #[vR a0, vI p1, vR a2] []))
 have F22 := (F4.keep Kq20)
 have F23 := (F5.keep Kq20 (ninS (qn P_E_a0.lt hp10) nin0))
 have F24 := (F6.keep Kq20 (ninS (qn P_E_a0.lt hp10) nin0))
 have F25 := (F7.keep Kq20 (ninS (qn P_E_a0.lt hp10) nin0))
 have F26 := (F8.keep Kq20 (ninS (qn P_E_a0.lt hp10) nin0))
 have F27 := (F11.keep Kq20)
 exact own_ret0 X20 hx hrt (own_e hby d10 10 rfl) hlk rfl ⟨_, _, rfl, N20, K20, F22, F23, F24, F25, F26, hp9, sz_b2, F27, F21⟩ (by decide) (by decide)
theorem ef_ps10 (m : MethodId) (a0 : Addr) (p1 : Int32) (a2 : Addr) : entryFrame m #[(.ref a0), (.int p1), (.ref a2)] 3 = mkF m 0 #[vR a0, vI p1, vR a2] [] := rfl
def Qps10 (Z : State) (t_a0 : Addr) (c_a0 : Int32) (k_t_a0 : ClassId) (n_t_a0 : Int32) (fn_t_a0 : Nat → Int32) (t_a2 : Addr) (k_t_a2 : ClassId) (n_t_a2 : Int32) (fn_t_a2 : Nat → Int32) (f_CS : Int32) (f_SF : Value) (a0 : Addr) (p1 : Int32) (a2 : Addr) (h0 : Heap) (n0 : Nat) (v : Option Value) (h : Heap) (L : List Loc) : Prop := ∃ (gg5001 : Nat → Int32), v = none ∧ Fr n0 L ∧ Keep h0 h [t_a0] ∧ qA Z h t_a0 k_t_a0 .byte n_t_a0 (fun i => .int (gg5001 i)) ∧ ((∃ (b5_ps10 : Nat → Int32), ((∃ (b6_gb01 : Nat → Int32), ((∃ (b2_slL : Nat → Int32), (own_inf fn_t_a2 fn_t_a0 b2_slL (p1).toNatClampNeg (n_t_a2).toNatClampNeg) ∧ b6_gb01 = b2_slL)) ∧ b5_ps10 = b6_gb01)) ∧ gg5001 = b5_ps10))
theorem rmps10 (l : Launch) (Z : State) (A0 : Array Value) (hw : ∀ d ∈ tables_1, d.before A0 Z = true) (ws : List Jvm.Cond) (t_a0 : Addr) (c_a0 : Int32) (k_t_a0 : ClassId) (n_t_a0 : Int32) (fn_t_a0 : Nat → Int32) (t_a2 : Addr) (k_t_a2 : ClassId) (n_t_a2 : Int32) (fn_t_a2 : Nat → Int32) (f_CS : Int32) (f_SF : Value) (a0 : Addr) (p1 : Int32) (a2 : Addr) (h0 : Heap) (n0 : Nat) (Z0 : n0 ≤ h0.size) (P_E_a0 : Exa Z h0 a0 "java/lang/StringBuilder") (P_F_a0_coder : Fld Z h0 a0 cA "coder" "B" (.int 1)) (P_F_a0_value : Fld Z h0 a0 cA "value" "[B" (.ref t_a0)) (P_F_a0_count : Fld Z h0 a0 cA "count" "I" (.int c_a0)) (P_V_t_a0 : qA Z h0 t_a0 k_t_a0 .byte n_t_a0 (fun i => .int (fn_t_a0 i))) (P_E_a2 : Exa Z h0 a2 "java/lang/String") (P_F_a2_coder : Fld Z h0 a2 cS "coder" "B" (.int 0)) (P_F_a2_value : Fld Z h0 a2 cS "value" "[B" (.ref t_a2)) (P_V_t_a2 : qA Z h0 t_a2 k_t_a2 .byte n_t_a2 (fun i => .int (fn_t_a2 i))) (P_S_CS : Sta Z h0 cS "COMPACT_STRINGS" "Z" (.int f_CS)) (hn_CS : ¬ (f_CS = (0 : Int32))) (P_S_SF : Sta Z h0 "jdk/internal/util/Preconditions" "SIOOBE_FORMATTER" "Ljava/util/function/BiFunction;" f_SF) (hr_f_SF : f_SF.isRef = true) (P_S_UD : Sta Z h0 cU "$assertionsDisabled" "Z" (.int 1)) (P_S_HI_BYTE_SHIFT : Sta Z h0 cU "HI_BYTE_SHIFT" "I" (.int 0)) (P_S_LO_BYTE_SHIFT : Sta Z h0 cU "LO_BYTE_SHIFT" "I" (.int 8)) (hb : 0 ≤ (p1).toInt ∧ 0 ≤ (n_t_a2).toInt ∧ (p1).toInt + (n_t_a2).toInt ≤ 48 ∧ 2 * ((p1).toInt + (n_t_a2).toInt) ≤ (n_t_a0).toInt) (hp_3 : ¬ ((((n_t_a0 >>> ((1 : Int32) &&& 31)) ||| p1) ||| n_t_a2) < (0 : Int32))) (hp_4 : ¬ (((n_t_a0 >>> ((1 : Int32) &&& 31)) - p1) < n_t_a2)) (ne_t_a2_t_a0 : t_a2 ≠ t_a0) (g_t_a0 : n0 ≤ t_a0) :
  qM l Z (⟨"java/lang/AbstractStringBuilder", "putStringAt", "(ILjava/lang/String;)V"⟩ : MethodName) jdk_68_method_73_code 3 none ws ({ frames := 6, cells := 0, slots := 0, locals := 91 } : Room) #[(.ref a0), (.int p1), (.ref a2)] h0 (Qps10 Z t_a0 c_a0 k_t_a0 n_t_a0 fn_t_a0 t_a2 k_t_a2 n_t_a2 fn_t_a2 f_CS f_SF a0 p1 a2 h0 n0) 0 0 := own_enter (plainFor_of_name pn_isl0) (fun m => ef_ps10 m a0 p1 a2) fun p e s m below meth c s₁ hx hby hml hlk hown hnm X0 e0 hZ hrt => by
 have hwd := qw hw
 have N0 := Fr.nil n0
 show qG p e below _ (s₁.setTop (mkF m 0 #[vR a0, vI p1, vR a2] []))
 refine qb (fun _ k => XS.aloadN X0.here hx rfl (own_e hby d10 0 rfl) rfl rfl k) ?_
 refine qb (fun _ k => XS.aloadN X0.here hx rfl (own_e hby d10 1 rfl) rfl rfl k) ?_
 obtain ⟨_, T1, Lc1, X1, hQ1, st1⟩ := own_cP X0 hx hZ hown hml (rmii10 l Z A0 hw [] f_CS a0 a2 h0 n0 Z0 P_E_a0 P_F_a0_coder P_E_a2 P_F_a2_coder P_S_CS hn_CS) (hwd 71 rfl) (hwd 72 rfl) (hwd 26 rfl) (hwd 75 rfl) (by decide) pd_71 e0 (hwd 73 rfl) (own_selPriv2 hZ (hwd 74 rfl) (hwd 73 rfl) (hwd 72 rfl) (by decide)) P_E_a0 (g := (mkF m 2 #[vR a0, vI p1, vR a2] [(.ref a2), (.ref a0)])) (rest := []) rfl rfl rfl rfl (own_e hby d10 2 rfl) rfl
 obtain ⟨rfl, Nq1, eq1⟩ := hQ1
 have N1 := Fr.app N0 Nq1
 refine qb st1 ?_
 show qG p e below _ (T1.setTop (mkF m 5 #[vR a0, vI p1, vR a2] []))
 refine qb (fun _ k => XS.aloadN X1.here hx rfl (own_e hby d10 3 rfl) rfl rfl k) ?_
 refine qb (fun _ k => XS.aloadN X1.here hx rfl (own_e hby d10 4 rfl) rfl rfl k) ?_
 obtain ⟨T2, X2, e2, st2⟩ := getF X1 hx hZ hown (host := "") (Or.inl (hwd 32 rfl)) Via.refl eq1 P_F_a0_value (g := (mkF m 7 #[vR a0, vI p1, vR a2] [(.ref a0), (.ref a2)])) rfl rfl (own_e hby d10 5 rfl)
 refine qb st2 ?_
 refine qb (fun _ k => XS.iloadN X2.here hx rfl (own_e hby d10 6 rfl) rfl k) ?_
 refine qb (fun _ k => XS.aloadN X2.here hx rfl (own_e hby d10 7 rfl) rfl rfl k) ?_
 obtain ⟨T3, X3, e3, st3⟩ := getF X2 hx hZ hown (host := "") (Or.inl (hwd 34 rfl)) Via.refl e2 P_F_a0_coder (g := (mkF m 12 #[vR a0, vI p1, vR a2] [(.ref a0), (.int p1), (.ref t_a0), (.ref a2)])) rfl rfl (own_e hby d10 8 rfl)
 refine qb st3 ?_
 obtain ⟨_, T4, Lc4, X4, hQ4, st4⟩ := own_cV X3 hx hZ hown hml (rmgb01 l Z A0 hw [] t_a2 k_t_a2 n_t_a2 fn_t_a2 k_t_a0 n_t_a0 fn_t_a0 f_CS f_SF a2 t_a0 p1 h0 n0 Z0 P_E_a2 P_F_a2_coder P_F_a2_value P_V_t_a2 P_V_t_a0 P_S_CS hn_CS P_S_SF hr_f_SF P_S_UD P_S_HI_BYTE_SHIFT P_S_LO_BYTE_SHIFT hb hp_3 hp_4 ne_t_a2_t_a0 g_t_a0) (hwd 77 rfl) (hwd 79 rfl) (hwd 1 rfl) (hwd 81 rfl) (by decide) pd_77 e3 (hwd 78 rfl) (hwd 80 rfl) P_E_a2 (g := (mkF m 15 #[vR a0, vI p1, vR a2] [(.int 1), (.int p1), (.ref t_a0), (.ref a2)])) (rest := []) rfl rfl rfl rfl (own_e hby d10 9 rfl) rfl
 obtain ⟨b5, rfl, Nq4, Kq4, F6, hp7⟩ := hQ4
 have N4 := Fr.app N1 Nq4
 have K4 : Keep h0 T4.heap [t_a0] := (Keep.refl h0 [t_a0]).trans Kq4 ((allS (Or.inl (List.mem_of_getElem? (i := 0) rfl)) all0))
 have Z4 := ql Z0 Kq4.1
 refine qb st4 ?_
 show qG p e below _ (T4.setTop (mkF m 18 #[vR a0, vI p1, vR a2] []))
 exact own_ret0 X4 hx hrt (own_e hby d10 10 rfl) hlk rfl ⟨b5, rfl, N4, K4, F6, ⟨b5, hp7, rfl⟩⟩ (by decide) (by decide)
theorem pd_46 : parseMethodDescriptor "()I" = some ⟨[], some .int⟩ := by decide +kernel
theorem pd_66 : parseMethodDescriptor "(ILjava/lang/String;)V" = some ⟨[.int, (.object "java/lang/String")], none⟩ := by decide +kernel
theorem d6 : own_ds jdk_68_method_22_code [(0, .aload_n 1, 1), (1, .ifnonnull 8, 3), (9, .aload_n 1, 1), (10, .invokevirtual 32, 3), (13, .istore_n 2, 1), (14, .aload_n 0, 1), (15, .aload_n 0, 1), (16, .getfield 79, 3), (19, .iload_n 2, 1), (20, .iadd, 1), (21, .invokevirtual 100, 3), (24, .aload_n 0, 1), (25, .aload_n 0, 1), (26, .getfield 79, 3), (29, .aload_n 1, 1), (30, .invokevirtual 208, 3), (33, .aload_n 0, 1), (34, .dup, 1), (35, .getfield 79, 3), (38, .iload_n 2, 1), (39, .iadd, 1), (40, .putfield 79, 3), (43, .aload_n 0, 1), (44, .areturn, 1)] = true := by decide +kernel
theorem ef_ap00N (m : MethodId) (a0 a1 : Addr) : entryFrame m #[(.ref a0), (.ref a1)] 3 = mkF m 0 #[vR a0, vR a1, .unset] [] := rfl
def Qap00N (Z : State) (t_a0 : Addr) (c_a0 : Int32) (k_t_a0 : ClassId) (n_t_a0 : Int32) (fn_t_a0 : Nat → Int32) (t_a1 : Addr) (k_t_a1 : ClassId) (n_t_a1 : Int32) (fn_t_a1 : Nat → Int32) (f_CS : Int32) (a0 a1 : Addr) (f_a0_maybeLatin1 : Int32) (h0 : Heap) (n0 : Nat) (v : Option Value) (h : Heap) (L : List Loc) : Prop := v = some (.ref a0) ∧ Fr n0 L ∧ Keep h0 h [t_a0, a0] ∧ qA Z h t_a0 k_t_a0 .byte n_t_a0 (fun i => .int ((own_cp fn_t_a1 0 fn_t_a0 (c_a0).toNatClampNeg (n_t_a1).toNatClampNeg) i)) ∧ Exa Z h a0 "java/lang/StringBuilder" ∧ Fld Z h a0 cA "coder" "B" (.int 0) ∧ Fld Z h a0 cA "value" "[B" (.ref t_a0) ∧ Fld Z h a0 cA "count" "I" (.int (c_a0 + n_t_a1)) ∧ Fld Z h a0 cA "maybeLatin1" "Z" (.int f_a0_maybeLatin1)
theorem rmap00N (l : Launch) (Z : State) (A0 : Array Value) (hw : ∀ d ∈ tables_1, d.before A0 Z = true) (ws : List Jvm.Cond) (t_a0 : Addr) (c_a0 : Int32) (k_t_a0 : ClassId) (n_t_a0 : Int32) (fn_t_a0 : Nat → Int32) (t_a1 : Addr) (k_t_a1 : ClassId) (n_t_a1 : Int32) (fn_t_a1 : Nat → Int32) (f_CS : Int32) (a0 a1 : Addr) (f_a0_maybeLatin1 : Int32) (h0 : Heap) (n0 : Nat) (Z0 : n0 ≤ h0.size) (P_E_a0 : Exa Z h0 a0 "java/lang/StringBuilder") (P_F_a0_coder : Fld Z h0 a0 cA "coder" "B" (.int 0)) (P_F_a0_value : Fld Z h0 a0 cA "value" "[B" (.ref t_a0)) (P_F_a0_count : Fld Z h0 a0 cA "count" "I" (.int c_a0)) (P_V_t_a0 : qA Z h0 t_a0 k_t_a0 .byte n_t_a0 (fun i => .int (fn_t_a0 i))) (P_E_a1 : Exa Z h0 a1 "java/lang/String") (P_F_a1_coder : Fld Z h0 a1 cS "coder" "B" (.int 0)) (P_F_a1_value : Fld Z h0 a1 cS "value" "[B" (.ref t_a1)) (P_V_t_a1 : qA Z h0 t_a1 k_t_a1 .byte n_t_a1 (fun i => .int (fn_t_a1 i))) (P_S_CS : Sta Z h0 cS "COMPACT_STRINGS" "Z" (.int f_CS)) (hn_CS : ¬ (f_CS = (0 : Int32))) (hp_1 : ¬ ((0 : Int32) < ((c_a0 + n_t_a1) - n_t_a0))) (hp_2 : ¬ c_a0 < 0) (hp_3 : ¬ n_t_a1 < 0) (hp_4 : 0 + (n_t_a1).toNatClampNeg ≤ (n_t_a1).toNatClampNeg) (hp_5 : (c_a0).toNatClampNeg + (n_t_a1).toNatClampNeg ≤ (n_t_a0).toNatClampNeg) (g_t_a0 : n0 ≤ t_a0) (g_a0 : n0 ≤ a0) (P_F_a0_maybeLatin1 : Fld Z h0 a0 cA "maybeLatin1" "Z" (.int f_a0_maybeLatin1)) :
  qM l Z (⟨"java/lang/AbstractStringBuilder", "append", "(Ljava/lang/String;)Ljava/lang/AbstractStringBuilder;"⟩ : MethodName) jdk_68_method_22_code 3 (some (.object "java/lang/AbstractStringBuilder")) ws ({ frames := 3, cells := 0, slots := 0, locals := 59 } : Room) #[(.ref a0), (.ref a1)] h0 (Qap00N Z t_a0 c_a0 k_t_a0 n_t_a0 fn_t_a0 t_a1 k_t_a1 n_t_a1 fn_t_a1 f_CS a0 a1 f_a0_maybeLatin1 h0 n0) 0 0 := own_enter (plainFor_of_name pn_isl0) (fun m => ef_ap00N m a0 a1) fun p e s m below meth c s₁ hx hby hml hlk hown hnm X0 e0 hZ hrt => by
 have hwd := qw hw
 have N0 := Fr.nil n0
 show qG p e below _ (s₁.setTop (mkF m 0 #[vR a0, vR a1, .unset] []))
 refine qb (fun _ k => XS.aloadN X0.here hx rfl (own_e hby d6 0 rfl) rfl rfl k) ?_
 refine qb (fun _ k => XS.ifnonnullYes X0.here hx rfl (pc0 := 1) (pc' := 9) rfl (own_e hby d6 1 rfl) rfl (by decide) (by decide) k) ?_
 show qG p e below _ (s₁.setTop (mkF m 9 #[vR a0, vR a1, .unset] []))
 refine qb (fun _ k => XS.aloadN X0.here hx rfl (own_e hby d6 2 rfl) rfl rfl k) ?_
 obtain ⟨_, T1, Lc1, X1, hQ1, st1⟩ := own_cV X0 hx hZ hown hml (rmlen0 l Z A0 hw [] t_a1 k_t_a1 n_t_a1 fn_t_a1 f_CS a1 h0 n0 Z0 P_E_a1 P_F_a1_coder P_F_a1_value P_V_t_a1 P_S_CS hn_CS) (hwd 46 rfl) (hwd 48 rfl) (hwd 1 rfl) (hwd 50 rfl) (by decide) pd_46 e0 (hwd 47 rfl) (hwd 49 rfl) P_E_a1 (g := (mkF m 10 #[vR a0, vR a1, .unset] [(.ref a1)])) (rest := []) rfl rfl rfl rfl (own_e hby d6 3 rfl) rfl
 obtain ⟨rfl, Nq1, eq1⟩ := hQ1
 have N1 := Fr.app N0 Nq1
 refine qb st1 ?_
 show qG p e below _ (T1.setTop (mkF m 13 #[vR a0, vR a1, .unset] [(.int n_t_a1)]))
 refine qb (fun _ k => XS.istoreN X1.here hx rfl (own_e hby d6 4 rfl) rfl (l' := #[vR a0, vR a1, vI n_t_a1]) rfl k) ?_
 show qG p e below _ (T1.setTop (mkF m 14 #[vR a0, vR a1, vI n_t_a1] []))
 refine qb (fun _ k => XS.aloadN X1.here hx rfl (own_e hby d6 5 rfl) rfl rfl k) ?_
 refine qb (fun _ k => XS.aloadN X1.here hx rfl (own_e hby d6 6 rfl) rfl rfl k) ?_
 obtain ⟨T2, X2, e2, st2⟩ := getF X1 hx hZ hown (host := "") (Or.inl (hwd 59 rfl)) Via.refl eq1 P_F_a0_count (g := (mkF m 16 #[vR a0, vR a1, vI n_t_a1] [(.ref a0), (.ref a0)])) rfl rfl (own_e hby d6 7 rfl)
 refine qb st2 ?_
 refine qb (fun _ k => XS.iloadN X2.here hx rfl (own_e hby d6 8 rfl) rfl k) ?_
 refine qb (fun _ k => XS.iadd X2.here hx rfl (own_e hby d6 9 rfl) rfl k) ?_
 obtain ⟨_, T3, Lc3, X3, hQ3, st3⟩ := own_cP X2 hx hZ hown hml (rmecN l Z A0 hw [] t_a0 c_a0 k_t_a0 n_t_a0 fn_t_a0 a0 (c_a0 + n_t_a1) h0 n0 Z0 P_E_a0 P_F_a0_coder P_F_a0_value P_F_a0_count P_V_t_a0 hp_1) (hwd 61 rfl) (hwd 62 rfl) (hwd 26 rfl) (hwd 65 rfl) (by decide) pd_22 e2 (hwd 63 rfl) (own_selPriv2 hZ (hwd 64 rfl) (hwd 63 rfl) (hwd 62 rfl) (by decide)) P_E_a0 (g := (mkF m 21 #[vR a0, vR a1, vI n_t_a1] [(.int (c_a0 + n_t_a1)), (.ref a0)])) (rest := []) rfl rfl rfl rfl (own_e hby d6 10 rfl) rfl
 obtain ⟨rfl, Nq3, eq3⟩ := hQ3
 have N3 := Fr.app N1 Nq3
 refine qb st3 ?_
 show qG p e below _ (T3.setTop (mkF m 24 #[vR a0, vR a1, vI n_t_a1] []))
 refine qb (fun _ k => XS.aloadN X3.here hx rfl (own_e hby d6 11 rfl) rfl rfl k) ?_
 refine qb (fun _ k => XS.aloadN X3.here hx rfl (own_e hby d6 12 rfl) rfl rfl k) ?_
 obtain ⟨T4, X4, e4, st4⟩ := getF X3 hx hZ hown (host := "") (Or.inl (hwd 59 rfl)) Via.refl eq3 P_F_a0_count (g := (mkF m 26 #[vR a0, vR a1, vI n_t_a1] [(.ref a0), (.ref a0)])) rfl rfl (own_e hby d6 13 rfl)
 refine qb st4 ?_
 refine qb (fun _ k => XS.aloadN X4.here hx rfl (own_e hby d6 14 rfl) rfl rfl k) ?_
 obtain ⟨_, T5, Lc5, X5, hQ5, st5⟩ := own_cP X4 hx hZ hown hml (rmps00 l Z A0 hw [] t_a0 c_a0 k_t_a0 n_t_a0 fn_t_a0 t_a1 k_t_a1 n_t_a1 fn_t_a1 f_CS a0 c_a0 a1 h0 n0 Z0 P_E_a0 P_F_a0_coder P_F_a0_value P_F_a0_count P_V_t_a0 P_E_a1 P_F_a1_coder P_F_a1_value P_V_t_a1 P_S_CS hn_CS hp_2 hp_3 hp_4 hp_5 g_t_a0) (hwd 66 rfl) (hwd 67 rfl) (hwd 26 rfl) (hwd 70 rfl) (by decide) pd_66 e4 (hwd 68 rfl) (own_selPriv2 hZ (hwd 69 rfl) (hwd 68 rfl) (hwd 67 rfl) (by decide)) P_E_a0 (g := (mkF m 30 #[vR a0, vR a1, vI n_t_a1] [(.ref a1), (.int c_a0), (.ref a0)])) (rest := []) rfl rfl rfl rfl (own_e hby d6 15 rfl) rfl
 obtain ⟨rfl, Nq5, Kq5, F6⟩ := hQ5
 have N5 := Fr.app N3 Nq5
 have K5 : Keep h0 T5.heap [t_a0, a0] := (Keep.refl h0 [t_a0, a0]).trans Kq5 ((allS (Or.inl (List.mem_of_getElem? (i := 0) rfl)) all0))
 have Z5 := ql Z0 Kq5.1
 refine qb st5 ?_
 show qG p e below _ (T5.setTop (mkF m 33 #[vR a0, vR a1, vI n_t_a1] []))
 refine qb (fun _ k => XS.aloadN X5.here hx rfl (own_e hby d6 16 rfl) rfl rfl k) ?_
 refine qb (fun _ k => XS.dup X5.here hx rfl (own_e hby d6 17 rfl) rfl rfl k) ?_
 have F7 := (P_F_a0_count.keep Kq5 (ninS (own_neArr (P_E_a0.keep Kq5) (hwd 17 rfl) F6) nin0))
 obtain ⟨T8, X8, e8, st8⟩ := getF X5 hx hZ hown (host := "") (Or.inl (hwd 59 rfl)) Via.refl rfl F7 (g := (mkF m 35 #[vR a0, vR a1, vI n_t_a1] [(.ref a0), (.ref a0)])) rfl rfl (own_e hby d6 18 rfl)
 refine qb st8 ?_
 refine qb (fun _ k => XS.iloadN X8.here hx rfl (own_e hby d6 19 rfl) rfl k) ?_
 refine qb (fun _ k => XS.iadd X8.here hx rfl (own_e hby d6 20 rfl) rfl k) ?_
 have F9 := (P_E_a0.keep Kq5)
 obtain ⟨T10, h10, X10, e10, W10, st10⟩ := putF X8 hx hZ hown (host := "") (Or.inl (hwd 59 rfl)) Via.refl e8 F7 F9 (Or.inl (hwd 60 rfl)) (hwd 17 rfl) (ty := .int) (by decide) rfl rfl (g := (mkF m 40 #[vR a0, vR a1, vI n_t_a1] [(.int (c_a0 + n_t_a1)), (.ref a0)])) rfl rfl (own_e hby d6 21 rfl)
 have Fw10 : Fld Z h10 a0 cA "count" "I" (.int (c_a0 + n_t_a1)) := F7.same W10
 have K10 : Keep h0 h10 [t_a0, a0] := K5.wr W10 (Or.inl (List.mem_of_getElem? (i := 1) rfl))
 have Z10 := ql Z5 (Keep.of_wr W10).1
 have N10 := Fr.snoc X10 N5 g_a0
 refine qb st10 ?_
 show qG p e below _ (T10.setTop (mkF m 43 #[vR a0, vR a1, vI n_t_a1] []))
 refine qb (fun _ k => XS.aloadN X10.here hx rfl (own_e hby d6 22 rfl) rfl rfl k) ?_
 have F11 := (F6.other W10 (Ne.symm (own_neArr (P_E_a0.keep Kq5) (hwd 17 rfl) F6)))
 have F12 := (F9.wr W10)
 have F13 := ((P_F_a0_coder.keep Kq5 (ninS (own_neArr ((P_E_a0.keep Kq5).wr W10) (hwd 17 rfl) F11) nin0)).other W10 (Or.inr (slot_ne (Or.inl (hwd 35 rfl)) (Or.inl (hwd 60 rfl)) (by decide) (t := .byte) (t' := .int) (by decide) (by decide))))
 have F14 := ((P_F_a0_value.keep Kq5 (ninS (own_neArr ((P_E_a0.keep Kq5).wr W10) (hwd 17 rfl) F11) nin0)).other W10 (Or.inr (slot_ne (Or.inl (hwd 33 rfl)) (Or.inl (hwd 60 rfl)) (by decide) (t := (.array .byte)) (t' := .int) (by decide) (by decide))))
 have F15 := ((P_F_a0_maybeLatin1.keep Kq5 (ninS (own_neArr ((P_E_a0.keep Kq5).wr W10) (hwd 17 rfl) F11) nin0)).other W10 (Or.inr (slot_ne (Or.inl (hwd 299 rfl)) (Or.inl (hwd 60 rfl)) (by decide) (t := .boolean) (t' := .int) (by decide) (by decide))))
 exact own_retR X10 hx hrt (by decide) rfl (own_e hby d6 23 rfl) hlk e10 ⟨rfl, N10, K10, F11, F12, F13, F14, Fw10, F15⟩ (by decide) (by decide)
theorem pd_41 : parseMethodDescriptor "(Ljava/lang/String;)Ljava/lang/AbstractStringBuilder;" = some ⟨[(.object "java/lang/String")], some (.object "java/lang/AbstractStringBuilder")⟩ := by decide +kernel
theorem d5 : own_ds jdk_67_method_7_code [(0, .aload_n 0, 1), (1, .aload_n 1, 1), (2, .invokespecial 29, 3), (5, .pop, 1), (6, .aload_n 0, 1), (7, .areturn, 1)] = true := by decide +kernel
theorem ef_a00N (m : MethodId) (a0 a1 : Addr) : entryFrame m #[(.ref a0), (.ref a1)] 2 = mkF m 0 #[vR a0, vR a1] [] := rfl
def Qa00N (Z : State) (t_a0 : Addr) (c_a0 : Int32) (k_t_a0 : ClassId) (n_t_a0 : Int32) (fn_t_a0 : Nat → Int32) (t_a1 : Addr) (k_t_a1 : ClassId) (n_t_a1 : Int32) (fn_t_a1 : Nat → Int32) (f_CS : Int32) (a0 a1 : Addr) (f_a0_maybeLatin1 : Int32) (h0 : Heap) (n0 : Nat) (v : Option Value) (h : Heap) (L : List Loc) : Prop := v = some (.ref a0) ∧ Fr n0 L ∧ Keep h0 h [a0, t_a0] ∧ Exa Z h a0 "java/lang/StringBuilder" ∧ Fld Z h a0 cA "coder" "B" (.int 0) ∧ Fld Z h a0 cA "value" "[B" (.ref t_a0) ∧ Fld Z h a0 cA "count" "I" (.int (c_a0 + n_t_a1)) ∧ Fld Z h a0 cA "maybeLatin1" "Z" (.int f_a0_maybeLatin1) ∧ qA Z h t_a0 k_t_a0 .byte n_t_a0 (fun i => .int ((own_cp fn_t_a1 0 fn_t_a0 (c_a0).toNatClampNeg (n_t_a1).toNatClampNeg) i))
theorem rma00N (l : Launch) (Z : State) (A0 : Array Value) (hw : ∀ d ∈ tables_1, d.before A0 Z = true) (ws : List Jvm.Cond) (t_a0 : Addr) (c_a0 : Int32) (k_t_a0 : ClassId) (n_t_a0 : Int32) (fn_t_a0 : Nat → Int32) (t_a1 : Addr) (k_t_a1 : ClassId) (n_t_a1 : Int32) (fn_t_a1 : Nat → Int32) (f_CS : Int32) (a0 a1 : Addr) (f_a0_maybeLatin1 : Int32) (h0 : Heap) (n0 : Nat) (Z0 : n0 ≤ h0.size) (P_E_a0 : Exa Z h0 a0 "java/lang/StringBuilder") (P_F_a0_coder : Fld Z h0 a0 cA "coder" "B" (.int 0)) (P_F_a0_value : Fld Z h0 a0 cA "value" "[B" (.ref t_a0)) (P_F_a0_count : Fld Z h0 a0 cA "count" "I" (.int c_a0)) (P_V_t_a0 : qA Z h0 t_a0 k_t_a0 .byte n_t_a0 (fun i => .int (fn_t_a0 i))) (P_E_a1 : Exa Z h0 a1 "java/lang/String") (P_F_a1_coder : Fld Z h0 a1 cS "coder" "B" (.int 0)) (P_F_a1_value : Fld Z h0 a1 cS "value" "[B" (.ref t_a1)) (P_V_t_a1 : qA Z h0 t_a1 k_t_a1 .byte n_t_a1 (fun i => .int (fn_t_a1 i))) (P_S_CS : Sta Z h0 cS "COMPACT_STRINGS" "Z" (.int f_CS)) (hn_CS : ¬ (f_CS = (0 : Int32))) (P_F_a0_maybeLatin1 : Fld Z h0 a0 cA "maybeLatin1" "Z" (.int f_a0_maybeLatin1)) (hp_1 : ¬ ((0 : Int32) < ((c_a0 + n_t_a1) - n_t_a0))) (hp_2 : ¬ c_a0 < 0) (hp_3 : ¬ n_t_a1 < 0) (hp_4 : 0 + (n_t_a1).toNatClampNeg ≤ (n_t_a1).toNatClampNeg) (hp_5 : (c_a0).toNatClampNeg + (n_t_a1).toNatClampNeg ≤ (n_t_a0).toNatClampNeg) (g_t_a0 : n0 ≤ t_a0) (g_a0 : n0 ≤ a0) :
  qM l Z (⟨"java/lang/StringBuilder", "append", "(Ljava/lang/String;)Ljava/lang/StringBuilder;"⟩ : MethodName) jdk_67_method_7_code 2 (some (.object "java/lang/StringBuilder")) ws ({ frames := 4, cells := 0, slots := 0, locals := 73 } : Room) #[(.ref a0), (.ref a1)] h0 (Qa00N Z t_a0 c_a0 k_t_a0 n_t_a0 fn_t_a0 t_a1 k_t_a1 n_t_a1 fn_t_a1 f_CS a0 a1 f_a0_maybeLatin1 h0 n0) 0 0 := own_enter (plainFor_of_name pn_sbi) (fun m => ef_a00N m a0 a1) fun p e s m below meth c s₁ hx hby hml hlk hown hnm X0 e0 hZ hrt => by
 have hwd := qw hw
 have N0 := Fr.nil n0
 show qG p e below _ (s₁.setTop (mkF m 0 #[vR a0, vR a1] []))
 refine qb (fun _ k => XS.aloadN X0.here hx rfl (own_e hby d5 0 rfl) rfl rfl k) ?_
 refine qb (fun _ k => XS.aloadN X0.here hx rfl (own_e hby d5 1 rfl) rfl rfl k) ?_
 obtain ⟨_, _, ⟨T1, L1, k1, n1⟩, -, X1, ⟨Lc1, hQ1, l1, y1, z1⟩, st1⟩ := superBack X0 hx hZ (y := (⟨"java/lang/AbstractStringBuilder", "append", "(Ljava/lang/String;)Ljava/lang/AbstractStringBuilder;"⟩ : MethodName)) hown (hwd 41 rfl) (own_same (hwd 42 rfl) (hwd 64 rfl) rfl (by decide)) (hwd 42 rfl) (hwd 43 rfl) (by decide) (backOf (W := 0) (rmap00N l Z A0 hw [] t_a0 c_a0 k_t_a0 n_t_a0 fn_t_a0 t_a1 k_t_a1 n_t_a1 fn_t_a1 f_CS a0 a1 f_a0_maybeLatin1 h0 n0 Z0 P_E_a0 P_F_a0_coder P_F_a0_value P_F_a0_count P_V_t_a0 P_E_a1 P_F_a1_coder P_F_a1_value P_V_t_a1 P_S_CS hn_CS hp_1 hp_2 hp_3 hp_4 hp_5 g_t_a0 g_a0 P_F_a0_maybeLatin1) hZ (hwd 45 rfl) (hwd 26 rfl) (by decide) (by decide)) e0 (Ins.self P_E_a0) (g := (mkF m 2 #[vR a0, vR a1] [(.ref a1), (.ref a0)])) rfl (by rw [hml]; rfl) (hwd 45 rfl) (argsL := [(.ref a1)]) (rest := []) (lenOf pd_41 rfl) rfl (by show 2 * 0 + _ ≤ _; exact Nat.le_of_eq rfl) (own_e hby d5 2 rfl) (fun _ _ => ⟨rfl, e0, (by decide : 0 + 0 ≤ _), (by decide : 0 + 0 ≤ _)⟩)
 dsimp only [Pt.U, Pt.locs, Pt.cells, Pt.slots] at X1 l1 y1 z1 st1 hQ1
 subst l1 y1 z1
 obtain ⟨rfl, Nq1, Kq1, F2, F3, F4, F5, F6, F7⟩ := hQ1
 have N1 := Fr.app N0 Nq1
 have K1 : Keep h0 T1.heap [a0, t_a0] := (Keep.refl h0 [a0, t_a0]).trans Kq1 ((allS (Or.inl (List.mem_of_getElem? (i := 1) rfl)) (allS (Or.inl (List.mem_of_getElem? (i := 0) rfl)) all0)))
 have Z1 := ql Z0 Kq1.1
 refine qb (fun _ k => st1.trans k) ?_
 show qG p e below _ (T1.setTop (mkF m 5 #[vR a0, vR a1] [(.ref a0)]))
 refine qb (fun _ k => XS.pop X1.here hx rfl (own_e hby d5 3 rfl) rfl rfl k) ?_
 refine qb (fun _ k => XS.aloadN X1.here hx rfl (own_e hby d5 4 rfl) rfl rfl k) ?_
 exact own_retR X1 hx hrt (by decide) rfl (own_e hby d5 5 rfl) hlk rfl ⟨rfl, N1, K1, F3, F4, F5, F6, F7, F2⟩ (by decide) (by decide)
theorem ef_ap01N (m : MethodId) (a0 a1 : Addr) : entryFrame m #[(.ref a0), (.ref a1)] 3 = mkF m 0 #[vR a0, vR a1, .unset] [] := rfl
def Qap01N (Z : State) (t_a0 : Addr) (k_t_a0 : ClassId) (n_t_a0 : Int32) (fn_t_a0 : Nat → Int32) (t_a1 : Addr) (k_t_a1 : ClassId) (n_t_a1 : Int32) (fn_t_a1 : Nat → Int32) (f_CS : Int32) (f_SF : Value) (a0 a1 : Addr) (f_a0_maybeLatin1 : Int32) (h0 : Heap) (n0 : Nat) (v : Option Value) (h : Heap) (L : List Loc) : Prop := ∃ (b6 : Addr) (b7 : ClassId), v = some (.ref a0) ∧ Fr n0 L ∧ Keep h0 h [a0] ∧ Exa Z h a0 "java/lang/StringBuilder" ∧ Fld Z h a0 cA "coder" "B" (.int 1) ∧ Fld Z h a0 cA "value" "[B" (.ref b6) ∧ Fld Z h a0 cA "count" "I" (.int (n_t_a1 >>> ((1 : Int32) &&& 31))) ∧ Fld Z h a0 cA "maybeLatin1" "Z" (.int f_a0_maybeLatin1) ∧ (n0 ≤ b6) ∧ (h0.size ≤ b6) ∧ Exa Z h b6 "[B" ∧ qA Z h b6 b7 .byte (n_t_a0 <<< ((1 : Int32) &&& 31)) (fun i => .int ((own_cp fn_t_a1 0 (fun _ => (0 : Int32)) 0 (n_t_a1).toNatClampNeg) i))
theorem rmap01N (l : Launch) (Z : State) (A0 : Array Value) (hw : ∀ d ∈ tables_1, d.before A0 Z = true) (ws : List Jvm.Cond) (t_a0 : Addr) (k_t_a0 : ClassId) (n_t_a0 : Int32) (fn_t_a0 : Nat → Int32) (t_a1 : Addr) (k_t_a1 : ClassId) (n_t_a1 : Int32) (fn_t_a1 : Nat → Int32) (f_CS : Int32) (f_SF : Value) (a0 a1 : Addr) (f_a0_maybeLatin1 : Int32) (h0 : Heap) (n0 : Nat) (Z0 : n0 ≤ h0.size) (P_E_a0 : Exa Z h0 a0 "java/lang/StringBuilder") (P_F_a0_coder : Fld Z h0 a0 cA "coder" "B" (.int 0)) (P_F_a0_value : Fld Z h0 a0 cA "value" "[B" (.ref t_a0)) (P_F_a0_count : Fld Z h0 a0 cA "count" "I" (.int 0)) (P_V_t_a0 : qA Z h0 t_a0 k_t_a0 .byte n_t_a0 (fun i => .int (fn_t_a0 i))) (P_E_a1 : Exa Z h0 a1 "java/lang/String") (P_F_a1_coder : Fld Z h0 a1 cS "coder" "B" (.int 1)) (P_F_a1_value : Fld Z h0 a1 cS "value" "[B" (.ref t_a1)) (P_V_t_a1 : qA Z h0 t_a1 k_t_a1 .byte n_t_a1 (fun i => .int (fn_t_a1 i))) (P_S_CS : Sta Z h0 cS "COMPACT_STRINGS" "Z" (.int f_CS)) (hn_CS : ¬ (f_CS = (0 : Int32))) (P_S_SF : Sta Z h0 "jdk/internal/util/Preconditions" "SIOOBE_FORMATTER" "Ljava/util/function/BiFunction;" f_SF) (hr_f_SF : f_SF.isRef = true) (hp_2 : ¬ ((0 : Int32) < ((n_t_a1 >>> ((1 : Int32) &&& 31)) - n_t_a0))) (P_F_a0_maybeLatin1 : Fld Z h0 a0 cA "maybeLatin1" "Z" (.int f_a0_maybeLatin1)) (hp_3 : ¬ (n_t_a0 < (0 : Int32))) (hp_4 : n_t_a0 < (1073741823 : Int32)) (hp_5 : ¬ ((n_t_a0 <<< ((1 : Int32) &&& 31)) < (0 : Int32))) (hp_6 : ((n_t_a0 <<< ((1 : Int32) &&& 31))).toNatClampNeg ≤ 96) (hp_7 : ¬ (((((n_t_a0 <<< ((1 : Int32) &&& 31)) >>> ((1 : Int32) &&& 31)) ||| (0 : Int32)) ||| (0 : Int32)) < (0 : Int32))) (hp_8 : ¬ ((((n_t_a0 <<< ((1 : Int32) &&& 31)) >>> ((1 : Int32) &&& 31)) - (0 : Int32)) < (0 : Int32))) (g_a0 : n0 ≤ a0) (hp_10 : ¬ n_t_a1 < 0) (hp_11 : 0 + (n_t_a1).toNatClampNeg ≤ (n_t_a1).toNatClampNeg) (hp_12 : 0 + (n_t_a1).toNatClampNeg ≤ ((n_t_a0 <<< ((1 : Int32) &&& 31))).toNatClampNeg) :
  qM l Z (⟨"java/lang/AbstractStringBuilder", "append", "(Ljava/lang/String;)Ljava/lang/AbstractStringBuilder;"⟩ : MethodName) jdk_68_method_22_code 3 (some (.object "java/lang/AbstractStringBuilder")) ws ({ frames := 8, cells := 1, slots := 96, locals := 116 } : Room) #[(.ref a0), (.ref a1)] h0 (Qap01N Z t_a0 k_t_a0 n_t_a0 fn_t_a0 t_a1 k_t_a1 n_t_a1 fn_t_a1 f_CS f_SF a0 a1 f_a0_maybeLatin1 h0 n0) 1 96 := own_enter (plainFor_of_name pn_isl0) (fun m => ef_ap01N m a0 a1) fun p e s m below meth c s₁ hx hby hml hlk hown hnm X0 e0 hZ hrt => by
 have hwd := qw hw
 have N0 := Fr.nil n0
 show qG p e below _ (s₁.setTop (mkF m 0 #[vR a0, vR a1, .unset] []))
 refine qb (fun _ k => XS.aloadN X0.here hx rfl (own_e hby d6 0 rfl) rfl rfl k) ?_
 refine qb (fun _ k => XS.ifnonnullYes X0.here hx rfl (pc0 := 1) (pc' := 9) rfl (own_e hby d6 1 rfl) rfl (by decide) (by decide) k) ?_
 show qG p e below _ (s₁.setTop (mkF m 9 #[vR a0, vR a1, .unset] []))
 refine qb (fun _ k => XS.aloadN X0.here hx rfl (own_e hby d6 2 rfl) rfl rfl k) ?_
 obtain ⟨_, T1, Lc1, X1, hQ1, st1⟩ := own_cV X0 hx hZ hown hml (rmlen1 l Z A0 hw [] t_a1 k_t_a1 n_t_a1 fn_t_a1 f_CS a1 h0 n0 Z0 P_E_a1 P_F_a1_coder P_F_a1_value P_V_t_a1 P_S_CS hn_CS) (hwd 46 rfl) (hwd 48 rfl) (hwd 1 rfl) (hwd 50 rfl) (by decide) pd_46 e0 (hwd 47 rfl) (hwd 49 rfl) P_E_a1 (g := (mkF m 10 #[vR a0, vR a1, .unset] [(.ref a1)])) (rest := []) rfl rfl rfl rfl (own_e hby d6 3 rfl) rfl
 obtain ⟨rfl, Nq1, eq1⟩ := hQ1
 have N1 := Fr.app N0 Nq1
 refine qb st1 ?_
 show qG p e below _ (T1.setTop (mkF m 13 #[vR a0, vR a1, .unset] [(.int (n_t_a1 >>> ((1 : Int32) &&& 31)))]))
 refine qb (fun _ k => XS.istoreN X1.here hx rfl (own_e hby d6 4 rfl) rfl (l' := #[vR a0, vR a1, vI (n_t_a1 >>> ((1 : Int32) &&& 31))]) rfl k) ?_
 show qG p e below _ (T1.setTop (mkF m 14 #[vR a0, vR a1, vI (n_t_a1 >>> ((1 : Int32) &&& 31))] []))
 refine qb (fun _ k => XS.aloadN X1.here hx rfl (own_e hby d6 5 rfl) rfl rfl k) ?_
 refine qb (fun _ k => XS.aloadN X1.here hx rfl (own_e hby d6 6 rfl) rfl rfl k) ?_
 obtain ⟨T2, X2, e2, st2⟩ := getF X1 hx hZ hown (host := "") (Or.inl (hwd 59 rfl)) Via.refl eq1 P_F_a0_count (g := (mkF m 16 #[vR a0, vR a1, vI (n_t_a1 >>> ((1 : Int32) &&& 31))] [(.ref a0), (.ref a0)])) rfl rfl (own_e hby d6 7 rfl)
 refine qb st2 ?_
 refine qb (fun _ k => XS.iloadN X2.here hx rfl (own_e hby d6 8 rfl) rfl k) ?_
 refine qb (fun _ k => XS.iadd X2.here hx rfl (own_e hby d6 9 rfl) rfl k) ?_
 show qG p e below _ (T2.setTop (mkF m 21 #[vR a0, vR a1, vI (n_t_a1 >>> ((1 : Int32) &&& 31))] [(.int ((0 : Int32) + (n_t_a1 >>> ((1 : Int32) &&& 31)))), (.ref a0)]))
 rw [own_0iadd]
 show qG p e below _ (T2.setTop (mkF m 21 #[vR a0, vR a1, vI (n_t_a1 >>> ((1 : Int32) &&& 31))] [(.int (n_t_a1 >>> ((1 : Int32) &&& 31))), (.ref a0)]))
 obtain ⟨_, T3, Lc3, X3, hQ3, st3⟩ := own_cP X2 hx hZ hown hml (rmecN l Z A0 hw [] t_a0 (0 : Int32) k_t_a0 n_t_a0 fn_t_a0 a0 (n_t_a1 >>> ((1 : Int32) &&& 31)) h0 n0 Z0 P_E_a0 P_F_a0_coder P_F_a0_value P_F_a0_count P_V_t_a0 hp_2) (hwd 61 rfl) (hwd 62 rfl) (hwd 26 rfl) (hwd 65 rfl) (by decide) pd_22 e2 (hwd 63 rfl) (own_selPriv2 hZ (hwd 64 rfl) (hwd 63 rfl) (hwd 62 rfl) (by decide)) P_E_a0 (g := (mkF m 21 #[vR a0, vR a1, vI (n_t_a1 >>> ((1 : Int32) &&& 31))] [(.int (n_t_a1 >>> ((1 : Int32) &&& 31))), (.ref a0)])) (rest := []) rfl rfl rfl rfl (own_e hby d6 10 rfl) rfl
 obtain ⟨rfl, Nq3, eq3⟩ := hQ3
 have N3 := Fr.app N1 Nq3
 refine qb st3 ?_
 show qG p e below _ (T3.setTop (mkF m 24 #[vR a0, vR a1, vI (n_t_a1 >>> ((1 : Int32) &&& 31))] []))
 refine qb (fun _ k => XS.aloadN X3.here hx rfl (own_e hby d6 11 rfl) rfl rfl k) ?_
 refine qb (fun _ k => XS.aloadN X3.here hx rfl (own_e hby d6 12 rfl) rfl rfl k) ?_
 obtain ⟨T4, X4, e4, st4⟩ := getF X3 hx hZ hown (host := "") (Or.inl (hwd 59 rfl)) Via.refl eq3 P_F_a0_count (g := (mkF m 26 #[vR a0, vR a1, vI (n_t_a1 >>> ((1 : Int32) &&& 31))] [(.ref a0), (.ref a0)])) rfl rfl (own_e hby d6 13 rfl)
 refine qb st4 ?_
 refine qb (fun _ k => XS.aloadN X4.here hx rfl (own_e hby d6 14 rfl) rfl rfl k) ?_
 obtain ⟨_, T5, Lc5, X5, hQ5, st5⟩ := own_cP X4 hx hZ hown hml (rmps01 l Z A0 hw [] t_a0 k_t_a0 n_t_a0 fn_t_a0 t_a1 k_t_a1 n_t_a1 fn_t_a1 f_CS f_SF a0 (0 : Int32) a1 f_a0_maybeLatin1 h0 n0 Z0 P_E_a0 P_F_a0_coder P_F_a0_value P_F_a0_count P_V_t_a0 P_E_a1 P_F_a1_coder P_F_a1_value P_V_t_a1 P_S_CS hn_CS P_S_SF hr_f_SF P_F_a0_maybeLatin1 hp_3 hp_4 hp_5 hp_6 hp_7 hp_8 g_a0 (show ¬ (0 : Int32) < 0 by decide) hp_10 hp_11 hp_12) (hwd 66 rfl) (hwd 67 rfl) (hwd 26 rfl) (hwd 70 rfl) (by decide) pd_66 e4 (hwd 68 rfl) (own_selPriv2 hZ (hwd 69 rfl) (hwd 68 rfl) (hwd 67 rfl) (by decide)) P_E_a0 (g := (mkF m 30 #[vR a0, vR a1, vI (n_t_a1 >>> ((1 : Int32) &&& 31))] [(.ref a1), (.int 0), (.ref a0)])) (rest := []) rfl rfl rfl rfl (own_e hby d6 15 rfl) rfl
 obtain ⟨b6, b7, rfl, Nq5, Kq5, F8, F9, F10, F11, F12, hp13, hp14, F15, F16⟩ := hQ5
 have N5 := Fr.app N3 Nq5
 have K5 : Keep h0 T5.heap [a0] := (Keep.refl h0 [a0]).trans Kq5 ((allS (Or.inl (List.mem_of_getElem? (i := 0) rfl)) all0))
 have Z5 := ql Z0 Kq5.1
 have sz_b6 := ql (Keep.refl h0 [a0]).1 hp14
 refine qb st5 ?_
 show qG p e below _ (T5.setTop (mkF m 33 #[vR a0, vR a1, vI (n_t_a1 >>> ((1 : Int32) &&& 31))] []))
 refine qb (fun _ k => XS.aloadN X5.here hx rfl (own_e hby d6 16 rfl) rfl rfl k) ?_
 refine qb (fun _ k => XS.dup X5.here hx rfl (own_e hby d6 17 rfl) rfl rfl k) ?_
 obtain ⟨T17, X17, e17, st17⟩ := getF X5 hx hZ hown (host := "") (Or.inl (hwd 59 rfl)) Via.refl rfl F11 (g := (mkF m 35 #[vR a0, vR a1, vI (n_t_a1 >>> ((1 : Int32) &&& 31))] [(.ref a0), (.ref a0)])) rfl rfl (own_e hby d6 18 rfl)
 refine qb st17 ?_
 refine qb (fun _ k => XS.iloadN X17.here hx rfl (own_e hby d6 19 rfl) rfl k) ?_
 refine qb (fun _ k => XS.iadd X17.here hx rfl (own_e hby d6 20 rfl) rfl k) ?_
 show qG p e below _ (T17.setTop (mkF m 40 #[vR a0, vR a1, vI (n_t_a1 >>> ((1 : Int32) &&& 31))] [(.int ((0 : Int32) + (n_t_a1 >>> ((1 : Int32) &&& 31)))), (.ref a0)]))
 rw [own_0iadd]
 show qG p e below _ (T17.setTop (mkF m 40 #[vR a0, vR a1, vI (n_t_a1 >>> ((1 : Int32) &&& 31))] [(.int (n_t_a1 >>> ((1 : Int32) &&& 31))), (.ref a0)]))
 obtain ⟨T18, h18, X18, e18, W18, st18⟩ := putF X17 hx hZ hown (host := "") (Or.inl (hwd 59 rfl)) Via.refl e17 F11 F8 (Or.inl (hwd 60 rfl)) (hwd 17 rfl) (ty := .int) (by decide) rfl rfl (g := (mkF m 40 #[vR a0, vR a1, vI (n_t_a1 >>> ((1 : Int32) &&& 31))] [(.int (n_t_a1 >>> ((1 : Int32) &&& 31))), (.ref a0)])) rfl rfl (own_e hby d6 21 rfl)
 have Fw18 : Fld Z h18 a0 cA "count" "I" (.int (n_t_a1 >>> ((1 : Int32) &&& 31))) := F11.same W18
 have K18 : Keep h0 h18 [a0] := K5.wr W18 (Or.inl (List.mem_of_getElem? (i := 0) rfl))
 have Z18 := ql Z5 (Keep.of_wr W18).1
 have N18 := Fr.snoc X18 N5 g_a0
 refine qb st18 ?_
 show qG p e below _ (T18.setTop (mkF m 43 #[vR a0, vR a1, vI (n_t_a1 >>> ((1 : Int32) &&& 31))] []))
 refine qb (fun _ k => XS.aloadN X18.here hx rfl (own_e hby d6 22 rfl) rfl rfl k) ?_
 have F19 := (F8.wr W18)
 have F20 := (F9.other W18 (Or.inr (slot_ne (Or.inl (hwd 35 rfl)) (Or.inl (hwd 60 rfl)) (by decide) (t := .byte) (t' := .int) (by decide) (by decide))))
 have F21 := (F10.other W18 (Or.inr (slot_ne (Or.inl (hwd 33 rfl)) (Or.inl (hwd 60 rfl)) (by decide) (t := (.array .byte)) (t' := .int) (by decide) (by decide))))
 have F22 := (F12.other W18 (Or.inr (slot_ne (Or.inl (hwd 299 rfl)) (Or.inl (hwd 60 rfl)) (by decide) (t := .boolean) (t' := .int) (by decide) (by decide))))
 have F23 := (F15.wr W18)
 have F24 := (F16.other W18 (qm P_E_a0.lt hp14))
 exact own_retR X18 hx hrt (by decide) rfl (own_e hby d6 23 rfl) hlk e18 ⟨_, _, rfl, N18, K18, F19, F20, F21, Fw18, F22, hp13, sz_b6, F23, F24⟩ (by decide) (by decide)
theorem ef_a01N (m : MethodId) (a0 a1 : Addr) : entryFrame m #[(.ref a0), (.ref a1)] 2 = mkF m 0 #[vR a0, vR a1] [] := rfl
def Qa01N (Z : State) (t_a0 : Addr) (k_t_a0 : ClassId) (n_t_a0 : Int32) (fn_t_a0 : Nat → Int32) (t_a1 : Addr) (k_t_a1 : ClassId) (n_t_a1 : Int32) (fn_t_a1 : Nat → Int32) (f_CS : Int32) (f_SF : Value) (a0 a1 : Addr) (f_a0_maybeLatin1 : Int32) (h0 : Heap) (n0 : Nat) (v : Option Value) (h : Heap) (L : List Loc) : Prop := ∃ (b2 : Addr) (b3 : ClassId), v = some (.ref a0) ∧ Fr n0 L ∧ Keep h0 h [a0] ∧ Exa Z h a0 "java/lang/StringBuilder" ∧ Fld Z h a0 cA "coder" "B" (.int 1) ∧ Fld Z h a0 cA "value" "[B" (.ref b2) ∧ Fld Z h a0 cA "count" "I" (.int (n_t_a1 >>> ((1 : Int32) &&& 31))) ∧ Fld Z h a0 cA "maybeLatin1" "Z" (.int f_a0_maybeLatin1) ∧ (n0 ≤ b2) ∧ (h0.size ≤ b2) ∧ Exa Z h b2 "[B" ∧ qA Z h b2 b3 .byte (n_t_a0 <<< ((1 : Int32) &&& 31)) (fun i => .int ((own_cp fn_t_a1 0 (fun _ => (0 : Int32)) 0 (n_t_a1).toNatClampNeg) i))
theorem rma01N (l : Launch) (Z : State) (A0 : Array Value) (hw : ∀ d ∈ tables_1, d.before A0 Z = true) (ws : List Jvm.Cond) (t_a0 : Addr) (k_t_a0 : ClassId) (n_t_a0 : Int32) (fn_t_a0 : Nat → Int32) (t_a1 : Addr) (k_t_a1 : ClassId) (n_t_a1 : Int32) (fn_t_a1 : Nat → Int32) (f_CS : Int32) (f_SF : Value) (a0 a1 : Addr) (f_a0_maybeLatin1 : Int32) (h0 : Heap) (n0 : Nat) (Z0 : n0 ≤ h0.size) (P_E_a0 : Exa Z h0 a0 "java/lang/StringBuilder") (P_F_a0_coder : Fld Z h0 a0 cA "coder" "B" (.int 0)) (P_F_a0_value : Fld Z h0 a0 cA "value" "[B" (.ref t_a0)) (P_F_a0_count : Fld Z h0 a0 cA "count" "I" (.int 0)) (P_V_t_a0 : qA Z h0 t_a0 k_t_a0 .byte n_t_a0 (fun i => .int (fn_t_a0 i))) (P_E_a1 : Exa Z h0 a1 "java/lang/String") (P_F_a1_coder : Fld Z h0 a1 cS "coder" "B" (.int 1)) (P_F_a1_value : Fld Z h0 a1 cS "value" "[B" (.ref t_a1)) (P_V_t_a1 : qA Z h0 t_a1 k_t_a1 .byte n_t_a1 (fun i => .int (fn_t_a1 i))) (P_S_CS : Sta Z h0 cS "COMPACT_STRINGS" "Z" (.int f_CS)) (hn_CS : ¬ (f_CS = (0 : Int32))) (P_S_SF : Sta Z h0 "jdk/internal/util/Preconditions" "SIOOBE_FORMATTER" "Ljava/util/function/BiFunction;" f_SF) (hr_f_SF : f_SF.isRef = true) (P_F_a0_maybeLatin1 : Fld Z h0 a0 cA "maybeLatin1" "Z" (.int f_a0_maybeLatin1)) (hp_2 : ¬ ((0 : Int32) < ((n_t_a1 >>> ((1 : Int32) &&& 31)) - n_t_a0))) (hp_3 : ¬ (n_t_a0 < (0 : Int32))) (hp_4 : n_t_a0 < (1073741823 : Int32)) (hp_5 : ¬ ((n_t_a0 <<< ((1 : Int32) &&& 31)) < (0 : Int32))) (hp_6 : ((n_t_a0 <<< ((1 : Int32) &&& 31))).toNatClampNeg ≤ 96) (hp_7 : ¬ (((((n_t_a0 <<< ((1 : Int32) &&& 31)) >>> ((1 : Int32) &&& 31)) ||| (0 : Int32)) ||| (0 : Int32)) < (0 : Int32))) (hp_8 : ¬ ((((n_t_a0 <<< ((1 : Int32) &&& 31)) >>> ((1 : Int32) &&& 31)) - (0 : Int32)) < (0 : Int32))) (g_a0 : n0 ≤ a0) (hp_10 : ¬ n_t_a1 < 0) (hp_11 : 0 + (n_t_a1).toNatClampNeg ≤ (n_t_a1).toNatClampNeg) (hp_12 : 0 + (n_t_a1).toNatClampNeg ≤ ((n_t_a0 <<< ((1 : Int32) &&& 31))).toNatClampNeg) :
  qM l Z (⟨"java/lang/StringBuilder", "append", "(Ljava/lang/String;)Ljava/lang/StringBuilder;"⟩ : MethodName) jdk_67_method_7_code 2 (some (.object "java/lang/StringBuilder")) ws ({ frames := 9, cells := 1, slots := 96, locals := 130 } : Room) #[(.ref a0), (.ref a1)] h0 (Qa01N Z t_a0 k_t_a0 n_t_a0 fn_t_a0 t_a1 k_t_a1 n_t_a1 fn_t_a1 f_CS f_SF a0 a1 f_a0_maybeLatin1 h0 n0) 1 96 := own_enter (plainFor_of_name pn_sbi) (fun m => ef_a01N m a0 a1) fun p e s m below meth c s₁ hx hby hml hlk hown hnm X0 e0 hZ hrt => by
 have hwd := qw hw
 have N0 := Fr.nil n0
 show qG p e below _ (s₁.setTop (mkF m 0 #[vR a0, vR a1] []))
 refine qb (fun _ k => XS.aloadN X0.here hx rfl (own_e hby d5 0 rfl) rfl rfl k) ?_
 refine qb (fun _ k => XS.aloadN X0.here hx rfl (own_e hby d5 1 rfl) rfl rfl k) ?_
 obtain ⟨_, _, ⟨T1, L1, k1, n1⟩, -, X1, ⟨Lc1, hQ1, l1, y1, z1⟩, st1⟩ := superBack X0 hx hZ (y := (⟨"java/lang/AbstractStringBuilder", "append", "(Ljava/lang/String;)Ljava/lang/AbstractStringBuilder;"⟩ : MethodName)) hown (hwd 41 rfl) (own_same (hwd 42 rfl) (hwd 64 rfl) rfl (by decide)) (hwd 42 rfl) (hwd 43 rfl) (by decide) (backOf (W := 0) (rmap01N l Z A0 hw [] t_a0 k_t_a0 n_t_a0 fn_t_a0 t_a1 k_t_a1 n_t_a1 fn_t_a1 f_CS f_SF a0 a1 f_a0_maybeLatin1 h0 n0 Z0 P_E_a0 P_F_a0_coder P_F_a0_value P_F_a0_count P_V_t_a0 P_E_a1 P_F_a1_coder P_F_a1_value P_V_t_a1 P_S_CS hn_CS P_S_SF hr_f_SF hp_2 P_F_a0_maybeLatin1 hp_3 hp_4 hp_5 hp_6 hp_7 hp_8 g_a0 hp_10 hp_11 hp_12) hZ (hwd 45 rfl) (hwd 26 rfl) (by decide) (by decide)) e0 (Ins.self P_E_a0) (g := (mkF m 2 #[vR a0, vR a1] [(.ref a1), (.ref a0)])) rfl (by rw [hml]; rfl) (hwd 45 rfl) (argsL := [(.ref a1)]) (rest := []) (lenOf pd_41 rfl) rfl (by show 2 * 0 + _ ≤ _; exact Nat.le_of_eq rfl) (own_e hby d5 2 rfl) (fun _ _ => ⟨rfl, e0, (by decide : 0 + 1 ≤ _), (by decide : 0 + 96 ≤ _)⟩)
 dsimp only [Pt.U, Pt.locs, Pt.cells, Pt.slots] at X1 l1 y1 z1 st1 hQ1
 subst l1 y1 z1
 obtain ⟨b2, b3, rfl, Nq1, Kq1, F4, F5, F6, F7, F8, hp9, hp10, F11, F12⟩ := hQ1
 have N1 := Fr.app N0 Nq1
 have K1 : Keep h0 T1.heap [a0] := (Keep.refl h0 [a0]).trans Kq1 ((allS (Or.inl (List.mem_of_getElem? (i := 0) rfl)) all0))
 have Z1 := ql Z0 Kq1.1
 have sz_b2 := ql (Keep.refl h0 [a0]).1 hp10
 refine qb (fun _ k => st1.trans k) ?_
 show qG p e below _ (T1.setTop (mkF m 5 #[vR a0, vR a1] [(.ref a0)]))
 refine qb (fun _ k => XS.pop X1.here hx rfl (own_e hby d5 3 rfl) rfl rfl k) ?_
 refine qb (fun _ k => XS.aloadN X1.here hx rfl (own_e hby d5 4 rfl) rfl rfl k) ?_
 exact own_retR X1 hx hrt (by decide) rfl (own_e hby d5 5 rfl) hlk rfl ⟨_, _, rfl, N1, K1, F4, F5, F6, F7, F8, hp9, sz_b2, F11, F12⟩ (by decide) (by decide)
theorem ef_ap00G (m : MethodId) (a0 a1 : Addr) : entryFrame m #[(.ref a0), (.ref a1)] 3 = mkF m 0 #[vR a0, vR a1, .unset] [] := rfl
def Qap00G (Z : State) (t_a0 : Addr) (c_a0 : Int32) (k_t_a0 : ClassId) (n_t_a0 : Int32) (fn_t_a0 : Nat → Int32) (t_a1 : Addr) (k_t_a1 : ClassId) (n_t_a1 : Int32) (fn_t_a1 : Nat → Int32) (f_CS : Int32) (a0 a1 : Addr) (f_a0_maybeLatin1 : Int32) (h0 : Heap) (n0 : Nat) (v : Option Value) (h : Heap) (L : List Loc) : Prop := ∃ (b4 : Addr) (b5 : ClassId), v = some (.ref a0) ∧ Fr n0 L ∧ Keep h0 h [a0] ∧ Exa Z h a0 "java/lang/StringBuilder" ∧ Fld Z h a0 cA "coder" "B" (.int 0) ∧ Fld Z h a0 cA "value" "[B" (.ref b4) ∧ Fld Z h a0 cA "count" "I" (.int (c_a0 + n_t_a1)) ∧ Fld Z h a0 cA "maybeLatin1" "Z" (.int f_a0_maybeLatin1) ∧ (n0 ≤ b4) ∧ (h0.size ≤ b4) ∧ Exa Z h b4 "[B" ∧ qA Z h b4 b5 .byte (n_t_a0 + ((c_a0 + n_t_a1) - n_t_a0)) (fun i => .int ((own_cp fn_t_a1 0 (own_cp fn_t_a0 0 (fun _ => (0 : Int32)) 0 (n_t_a0).toNatClampNeg) (c_a0).toNatClampNeg (n_t_a1).toNatClampNeg) i))
theorem rmap00G (l : Launch) (Z : State) (A0 : Array Value) (hw : ∀ d ∈ tables_1, d.before A0 Z = true) (ws : List Jvm.Cond) (t_a0 : Addr) (c_a0 : Int32) (k_t_a0 : ClassId) (n_t_a0 : Int32) (fn_t_a0 : Nat → Int32) (t_a1 : Addr) (k_t_a1 : ClassId) (n_t_a1 : Int32) (fn_t_a1 : Nat → Int32) (f_CS : Int32) (a0 a1 : Addr) (f_a0_maybeLatin1 : Int32) (h0 : Heap) (n0 : Nat) (Z0 : n0 ≤ h0.size) (P_E_a0 : Exa Z h0 a0 "java/lang/StringBuilder") (P_F_a0_coder : Fld Z h0 a0 cA "coder" "B" (.int 0)) (P_F_a0_value : Fld Z h0 a0 cA "value" "[B" (.ref t_a0)) (P_F_a0_count : Fld Z h0 a0 cA "count" "I" (.int c_a0)) (P_V_t_a0 : qA Z h0 t_a0 k_t_a0 .byte n_t_a0 (fun i => .int (fn_t_a0 i))) (P_E_a1 : Exa Z h0 a1 "java/lang/String") (P_F_a1_coder : Fld Z h0 a1 cS "coder" "B" (.int 0)) (P_F_a1_value : Fld Z h0 a1 cS "value" "[B" (.ref t_a1)) (P_V_t_a1 : qA Z h0 t_a1 k_t_a1 .byte n_t_a1 (fun i => .int (fn_t_a1 i))) (P_S_CS : Sta Z h0 cS "COMPACT_STRINGS" "Z" (.int f_CS)) (hn_CS : ¬ (f_CS = (0 : Int32))) (P_F_a0_maybeLatin1 : Fld Z h0 a0 cA "maybeLatin1" "Z" (.int f_a0_maybeLatin1)) (hp_1 : (0 : Int32) < ((c_a0 + n_t_a1) - n_t_a0)) (hp_2 : ¬ (((c_a0 + n_t_a1) - n_t_a0) < (n_t_a0 + (2 : Int32)))) (hp_3 : (0 : Int32) < (n_t_a0 + ((c_a0 + n_t_a1) - n_t_a0))) (hp_4 : ¬ ((2147483639 : Int32) < (n_t_a0 + ((c_a0 + n_t_a1) - n_t_a0)))) (hp_5 : ¬ ((n_t_a0 + ((c_a0 + n_t_a1) - n_t_a0)) = (2147483647 : Int32))) (hp_6 : ¬ ((n_t_a0 + ((c_a0 + n_t_a1) - n_t_a0)) = n_t_a0)) (hp_7 : ¬ ((n_t_a0 + ((c_a0 + n_t_a1) - n_t_a0)) < (0 : Int32))) (hp_8 : ((n_t_a0 + ((c_a0 + n_t_a1) - n_t_a0))).toNatClampNeg ≤ 96) (hp_9 : ¬ ((n_t_a0 + ((c_a0 + n_t_a1) - n_t_a0)) < n_t_a0)) (hp_10 : ¬ n_t_a0 < 0) (hp_11 : 0 + (n_t_a0).toNatClampNeg ≤ (n_t_a0).toNatClampNeg) (hp_12 : 0 + (n_t_a0).toNatClampNeg ≤ ((n_t_a0 + ((c_a0 + n_t_a1) - n_t_a0))).toNatClampNeg) (g_a0 : n0 ≤ a0) (hp_14 : ¬ c_a0 < 0) (hp_15 : ¬ n_t_a1 < 0) (hp_16 : 0 + (n_t_a1).toNatClampNeg ≤ (n_t_a1).toNatClampNeg) (hp_17 : (c_a0).toNatClampNeg + (n_t_a1).toNatClampNeg ≤ ((n_t_a0 + ((c_a0 + n_t_a1) - n_t_a0))).toNatClampNeg) :
  qM l Z (⟨"java/lang/AbstractStringBuilder", "append", "(Ljava/lang/String;)Ljava/lang/AbstractStringBuilder;"⟩ : MethodName) jdk_68_method_22_code 3 (some (.object "java/lang/AbstractStringBuilder")) ws ({ frames := 4, cells := 1, slots := 96, locals := 62 } : Room) #[(.ref a0), (.ref a1)] h0 (Qap00G Z t_a0 c_a0 k_t_a0 n_t_a0 fn_t_a0 t_a1 k_t_a1 n_t_a1 fn_t_a1 f_CS a0 a1 f_a0_maybeLatin1 h0 n0) 1 96 := own_enter (plainFor_of_name pn_isl0) (fun m => ef_ap00G m a0 a1) fun p e s m below meth c s₁ hx hby hml hlk hown hnm X0 e0 hZ hrt => by
 have hwd := qw hw
 have N0 := Fr.nil n0
 show qG p e below _ (s₁.setTop (mkF m 0 #[vR a0, vR a1, .unset] []))
 refine qb (fun _ k => XS.aloadN X0.here hx rfl (own_e hby d6 0 rfl) rfl rfl k) ?_
 refine qb (fun _ k => XS.ifnonnullYes X0.here hx rfl (pc0 := 1) (pc' := 9) rfl (own_e hby d6 1 rfl) rfl (by decide) (by decide) k) ?_
 show qG p e below _ (s₁.setTop (mkF m 9 #[vR a0, vR a1, .unset] []))
 refine qb (fun _ k => XS.aloadN X0.here hx rfl (own_e hby d6 2 rfl) rfl rfl k) ?_
 obtain ⟨_, T1, Lc1, X1, hQ1, st1⟩ := own_cV X0 hx hZ hown hml (rmlen0 l Z A0 hw [] t_a1 k_t_a1 n_t_a1 fn_t_a1 f_CS a1 h0 n0 Z0 P_E_a1 P_F_a1_coder P_F_a1_value P_V_t_a1 P_S_CS hn_CS) (hwd 46 rfl) (hwd 48 rfl) (hwd 1 rfl) (hwd 50 rfl) (by decide) pd_46 e0 (hwd 47 rfl) (hwd 49 rfl) P_E_a1 (g := (mkF m 10 #[vR a0, vR a1, .unset] [(.ref a1)])) (rest := []) rfl rfl rfl rfl (own_e hby d6 3 rfl) rfl
 obtain ⟨rfl, Nq1, eq1⟩ := hQ1
 have N1 := Fr.app N0 Nq1
 refine qb st1 ?_
 show qG p e below _ (T1.setTop (mkF m 13 #[vR a0, vR a1, .unset] [(.int n_t_a1)]))
 refine qb (fun _ k => XS.istoreN X1.here hx rfl (own_e hby d6 4 rfl) rfl (l' := #[vR a0, vR a1, vI n_t_a1]) rfl k) ?_
 show qG p e below _ (T1.setTop (mkF m 14 #[vR a0, vR a1, vI n_t_a1] []))
 refine qb (fun _ k => XS.aloadN X1.here hx rfl (own_e hby d6 5 rfl) rfl rfl k) ?_
 refine qb (fun _ k => XS.aloadN X1.here hx rfl (own_e hby d6 6 rfl) rfl rfl k) ?_
 obtain ⟨T2, X2, e2, st2⟩ := getF X1 hx hZ hown (host := "") (Or.inl (hwd 59 rfl)) Via.refl eq1 P_F_a0_count (g := (mkF m 16 #[vR a0, vR a1, vI n_t_a1] [(.ref a0), (.ref a0)])) rfl rfl (own_e hby d6 7 rfl)
 refine qb st2 ?_
 refine qb (fun _ k => XS.iloadN X2.here hx rfl (own_e hby d6 8 rfl) rfl k) ?_
 refine qb (fun _ k => XS.iadd X2.here hx rfl (own_e hby d6 9 rfl) rfl k) ?_
 obtain ⟨_, T3, Lc3, X3, hQ3, st3⟩ := own_cP X2 hx hZ hown hml (rmecG0 l Z A0 hw [] t_a0 c_a0 k_t_a0 n_t_a0 fn_t_a0 a0 (c_a0 + n_t_a1) f_a0_maybeLatin1 h0 n0 Z0 P_E_a0 P_F_a0_coder P_F_a0_value P_F_a0_count P_V_t_a0 hp_1 hp_2 hp_3 hp_4 hp_5 hp_6 hp_7 hp_8 hp_9 hp_10 hp_11 hp_12 g_a0 P_F_a0_maybeLatin1) (hwd 61 rfl) (hwd 62 rfl) (hwd 26 rfl) (hwd 65 rfl) (by decide) pd_22 e2 (hwd 63 rfl) (own_selPriv2 hZ (hwd 64 rfl) (hwd 63 rfl) (hwd 62 rfl) (by decide)) P_E_a0 (g := (mkF m 21 #[vR a0, vR a1, vI n_t_a1] [(.int (c_a0 + n_t_a1)), (.ref a0)])) (rest := []) rfl rfl rfl rfl (own_e hby d6 10 rfl) rfl
 obtain ⟨b4, b5, rfl, Nq3, Kq3, F6, F7, F8, F9, F10, hp11, hp12, F13, F14⟩ := hQ3
 have N3 := Fr.app N1 Nq3
 have K3 : Keep h0 T3.heap [a0] := (Keep.refl h0 [a0]).trans Kq3 ((allS (Or.inl (List.mem_of_getElem? (i := 0) rfl)) all0))
 have Z3 := ql Z0 Kq3.1
 have sz_b4 := ql (Keep.refl h0 [a0]).1 hp12
 refine qb st3 ?_
 show qG p e below _ (T3.setTop (mkF m 24 #[vR a0, vR a1, vI n_t_a1] []))
 refine qb (fun _ k => XS.aloadN X3.here hx rfl (own_e hby d6 11 rfl) rfl rfl k) ?_
 refine qb (fun _ k => XS.aloadN X3.here hx rfl (own_e hby d6 12 rfl) rfl rfl k) ?_
 obtain ⟨T15, X15, e15, st15⟩ := getF X3 hx hZ hown (host := "") (Or.inl (hwd 59 rfl)) Via.refl rfl F9 (g := (mkF m 26 #[vR a0, vR a1, vI n_t_a1] [(.ref a0), (.ref a0)])) rfl rfl (own_e hby d6 13 rfl)
 refine qb st15 ?_
 refine qb (fun _ k => XS.aloadN X15.here hx rfl (own_e hby d6 14 rfl) rfl rfl k) ?_
 have F16 := (P_E_a1.keep Kq3)
 have F17 := (P_F_a1_coder.keep Kq3 (ninS (ne_exa F16 F6 (by decide)) nin0))
 have F18 := (P_F_a1_value.keep Kq3 (ninS (ne_exa F16 F6 (by decide)) nin0))
 have F19 := (P_V_t_a1.keep Kq3 (ninS (Ne.symm (own_neArr P_E_a0 (hwd 17 rfl) P_V_t_a1)) nin0))
 have F20 := qk P_S_CS Kq3 (allS (qx P_E_a0) all0)
 obtain ⟨_, T21, Lc21, X21, hQ21, st21⟩ := own_cP X15 hx hZ hown hml (rmps00 l Z A0 hw [] b4 c_a0 b5 (n_t_a0 + ((c_a0 + n_t_a1) - n_t_a0)) (own_cp fn_t_a0 0 (fun _ => (0 : Int32)) 0 (n_t_a0).toNatClampNeg) t_a1 k_t_a1 n_t_a1 fn_t_a1 f_CS a0 c_a0 a1 T3.heap n0 Z3 F6 F7 F8 F9 F14 F16 F17 F18 F19 F20 hn_CS hp_14 hp_15 hp_16 hp_17 hp11) (hwd 66 rfl) (hwd 67 rfl) (hwd 26 rfl) (hwd 70 rfl) (by decide) pd_66 e15 (hwd 68 rfl) (own_selPriv2 hZ (hwd 69 rfl) (hwd 68 rfl) (hwd 67 rfl) (by decide)) F6 (g := (mkF m 30 #[vR a0, vR a1, vI n_t_a1] [(.ref a1), (.int c_a0), (.ref a0)])) (rest := []) rfl rfl rfl rfl (own_e hby d6 15 rfl) rfl
 obtain ⟨rfl, Nq21, Kq21, F22⟩ := hQ21
 have N21 := Fr.app N3 Nq21
 have K21 : Keep h0 T21.heap [a0] := K3.trans Kq21 ((allS (Or.inr sz_b4) all0))
 have Z21 := ql Z3 Kq21.1
 refine qb st21 ?_
 show qG p e below _ (T21.setTop (mkF m 33 #[vR a0, vR a1, vI n_t_a1] []))
 refine qb (fun _ k => XS.aloadN X21.here hx rfl (own_e hby d6 16 rfl) rfl rfl k) ?_
 refine qb (fun _ k => XS.dup X21.here hx rfl (own_e hby d6 17 rfl) rfl rfl k) ?_
 have F23 := (F9.keep Kq21 (ninS (qn P_E_a0.lt hp12) nin0))
 obtain ⟨T24, X24, e24, st24⟩ := getF X21 hx hZ hown (host := "") (Or.inl (hwd 59 rfl)) Via.refl rfl F23 (g := (mkF m 35 #[vR a0, vR a1, vI n_t_a1] [(.ref a0), (.ref a0)])) rfl rfl (own_e hby d6 18 rfl)
 refine qb st24 ?_
 refine qb (fun _ k => XS.iloadN X24.here hx rfl (own_e hby d6 19 rfl) rfl k) ?_
 refine qb (fun _ k => XS.iadd X24.here hx rfl (own_e hby d6 20 rfl) rfl k) ?_
 have F25 := (F6.keep Kq21)
 obtain ⟨T26, h26, X26, e26, W26, st26⟩ := putF X24 hx hZ hown (host := "") (Or.inl (hwd 59 rfl)) Via.refl e24 F23 F25 (Or.inl (hwd 60 rfl)) (hwd 17 rfl) (ty := .int) (by decide) rfl rfl (g := (mkF m 40 #[vR a0, vR a1, vI n_t_a1] [(.int (c_a0 + n_t_a1)), (.ref a0)])) rfl rfl (own_e hby d6 21 rfl)
 have Fw26 : Fld Z h26 a0 cA "count" "I" (.int (c_a0 + n_t_a1)) := F23.same W26
 have K26 : Keep h0 h26 [a0] := K21.wr W26 (Or.inl (List.mem_of_getElem? (i := 0) rfl))
 have Z26 := ql Z21 (Keep.of_wr W26).1
 have N26 := Fr.snoc X26 N21 g_a0
 refine qb st26 ?_
 show qG p e below _ (T26.setTop (mkF m 43 #[vR a0, vR a1, vI n_t_a1] []))
 refine qb (fun _ k => XS.aloadN X26.here hx rfl (own_e hby d6 22 rfl) rfl rfl k) ?_
 have F27 := (F25.wr W26)
 have F28 := ((F7.keep Kq21 (ninS (qn P_E_a0.lt hp12) nin0)).other W26 (Or.inr (slot_ne (Or.inl (hwd 35 rfl)) (Or.inl (hwd 60 rfl)) (by decide) (t := .byte) (t' := .int) (by decide) (by decide))))
 have F29 := ((F8.keep Kq21 (ninS (qn P_E_a0.lt hp12) nin0)).other W26 (Or.inr (slot_ne (Or.inl (hwd 33 rfl)) (Or.inl (hwd 60 rfl)) (by decide) (t := (.array .byte)) (t' := .int) (by decide) (by decide))))
 have F30 := ((F10.keep Kq21 (ninS (qn P_E_a0.lt hp12) nin0)).other W26 (Or.inr (slot_ne (Or.inl (hwd 299 rfl)) (Or.inl (hwd 60 rfl)) (by decide) (t := .boolean) (t' := .int) (by decide) (by decide))))
 have F31 := ((F13.keep Kq21).wr W26)
 have F32 := (F22.other W26 (qm P_E_a0.lt hp12))
 exact own_retR X26 hx hrt (by decide) rfl (own_e hby d6 23 rfl) hlk e26 ⟨_, _, rfl, N26, K26, F27, F28, F29, Fw26, F30, hp11, sz_b4, F31, F32⟩ (by decide) (by decide)
theorem ef_a00G (m : MethodId) (a0 a1 : Addr) : entryFrame m #[(.ref a0), (.ref a1)] 2 = mkF m 0 #[vR a0, vR a1] [] := rfl
def Qa00G (Z : State) (t_a0 : Addr) (c_a0 : Int32) (k_t_a0 : ClassId) (n_t_a0 : Int32) (fn_t_a0 : Nat → Int32) (t_a1 : Addr) (k_t_a1 : ClassId) (n_t_a1 : Int32) (fn_t_a1 : Nat → Int32) (f_CS : Int32) (a0 a1 : Addr) (f_a0_maybeLatin1 : Int32) (h0 : Heap) (n0 : Nat) (v : Option Value) (h : Heap) (L : List Loc) : Prop := ∃ (b2 : Addr) (b3 : ClassId), v = some (.ref a0) ∧ Fr n0 L ∧ Keep h0 h [a0] ∧ Exa Z h a0 "java/lang/StringBuilder" ∧ Fld Z h a0 cA "coder" "B" (.int 0) ∧ Fld Z h a0 cA "value" "[B" (.ref b2) ∧ Fld Z h a0 cA "count" "I" (.int (c_a0 + n_t_a1)) ∧ Fld Z h a0 cA "maybeLatin1" "Z" (.int f_a0_maybeLatin1) ∧ (n0 ≤ b2) ∧ (h0.size ≤ b2) ∧ Exa Z h b2 "[B" ∧ qA Z h b2 b3 .byte (n_t_a0 + ((c_a0 + n_t_a1) - n_t_a0)) (fun i => .int ((own_cp fn_t_a1 0 (own_cp fn_t_a0 0 (fun _ => (0 : Int32)) 0 (n_t_a0).toNatClampNeg) (c_a0).toNatClampNeg (n_t_a1).toNatClampNeg) i))
theorem rma00G (l : Launch) (Z : State) (A0 : Array Value) (hw : ∀ d ∈ tables_1, d.before A0 Z = true) (ws : List Jvm.Cond) (t_a0 : Addr) (c_a0 : Int32) (k_t_a0 : ClassId) (n_t_a0 : Int32) (fn_t_a0 : Nat → Int32) (t_a1 : Addr) (k_t_a1 : ClassId) (n_t_a1 : Int32) (fn_t_a1 : Nat → Int32) (f_CS : Int32) (a0 a1 : Addr) (f_a0_maybeLatin1 : Int32) (h0 : Heap) (n0 : Nat) (Z0 : n0 ≤ h0.size) (P_E_a0 : Exa Z h0 a0 "java/lang/StringBuilder") (P_F_a0_coder : Fld Z h0 a0 cA "coder" "B" (.int 0)) (P_F_a0_value : Fld Z h0 a0 cA "value" "[B" (.ref t_a0)) (P_F_a0_count : Fld Z h0 a0 cA "count" "I" (.int c_a0)) (P_V_t_a0 : qA Z h0 t_a0 k_t_a0 .byte n_t_a0 (fun i => .int (fn_t_a0 i))) (P_E_a1 : Exa Z h0 a1 "java/lang/String") (P_F_a1_coder : Fld Z h0 a1 cS "coder" "B" (.int 0)) (P_F_a1_value : Fld Z h0 a1 cS "value" "[B" (.ref t_a1)) (P_V_t_a1 : qA Z h0 t_a1 k_t_a1 .byte n_t_a1 (fun i => .int (fn_t_a1 i))) (P_S_CS : Sta Z h0 cS "COMPACT_STRINGS" "Z" (.int f_CS)) (hn_CS : ¬ (f_CS = (0 : Int32))) (P_F_a0_maybeLatin1 : Fld Z h0 a0 cA "maybeLatin1" "Z" (.int f_a0_maybeLatin1)) (hp_1 : (0 : Int32) < ((c_a0 + n_t_a1) - n_t_a0)) (hp_2 : ¬ (((c_a0 + n_t_a1) - n_t_a0) < (n_t_a0 + (2 : Int32)))) (hp_3 : (0 : Int32) < (n_t_a0 + ((c_a0 + n_t_a1) - n_t_a0))) (hp_4 : ¬ ((2147483639 : Int32) < (n_t_a0 + ((c_a0 + n_t_a1) - n_t_a0)))) (hp_5 : ¬ ((n_t_a0 + ((c_a0 + n_t_a1) - n_t_a0)) = (2147483647 : Int32))) (hp_6 : ¬ ((n_t_a0 + ((c_a0 + n_t_a1) - n_t_a0)) = n_t_a0)) (hp_7 : ¬ ((n_t_a0 + ((c_a0 + n_t_a1) - n_t_a0)) < (0 : Int32))) (hp_8 : ((n_t_a0 + ((c_a0 + n_t_a1) - n_t_a0))).toNatClampNeg ≤ 96) (hp_9 : ¬ ((n_t_a0 + ((c_a0 + n_t_a1) - n_t_a0)) < n_t_a0)) (hp_10 : ¬ n_t_a0 < 0) (hp_11 : 0 + (n_t_a0).toNatClampNeg ≤ (n_t_a0).toNatClampNeg) (hp_12 : 0 + (n_t_a0).toNatClampNeg ≤ ((n_t_a0 + ((c_a0 + n_t_a1) - n_t_a0))).toNatClampNeg) (g_a0 : n0 ≤ a0) (hp_14 : ¬ c_a0 < 0) (hp_15 : ¬ n_t_a1 < 0) (hp_16 : 0 + (n_t_a1).toNatClampNeg ≤ (n_t_a1).toNatClampNeg) (hp_17 : (c_a0).toNatClampNeg + (n_t_a1).toNatClampNeg ≤ ((n_t_a0 + ((c_a0 + n_t_a1) - n_t_a0))).toNatClampNeg) :
  qM l Z (⟨"java/lang/StringBuilder", "append", "(Ljava/lang/String;)Ljava/lang/StringBuilder;"⟩ : MethodName) jdk_67_method_7_code 2 (some (.object "java/lang/StringBuilder")) ws ({ frames := 5, cells := 1, slots := 96, locals := 76 } : Room) #[(.ref a0), (.ref a1)] h0 (Qa00G Z t_a0 c_a0 k_t_a0 n_t_a0 fn_t_a0 t_a1 k_t_a1 n_t_a1 fn_t_a1 f_CS a0 a1 f_a0_maybeLatin1 h0 n0) 1 96 := own_enter (plainFor_of_name pn_sbi) (fun m => ef_a00G m a0 a1) fun p e s m below meth c s₁ hx hby hml hlk hown hnm X0 e0 hZ hrt => by
 have hwd := qw hw
 have N0 := Fr.nil n0
 show qG p e below _ (s₁.setTop (mkF m 0 #[vR a0, vR a1] []))
 refine qb (fun _ k => XS.aloadN X0.here hx rfl (own_e hby d5 0 rfl) rfl rfl k) ?_
 refine qb (fun _ k => XS.aloadN X0.here hx rfl (own_e hby d5 1 rfl) rfl rfl k) ?_
 obtain ⟨_, _, ⟨T1, L1, k1, n1⟩, -, X1, ⟨Lc1, hQ1, l1, y1, z1⟩, st1⟩ := superBack X0 hx hZ (y := (⟨"java/lang/AbstractStringBuilder", "append", "(Ljava/lang/String;)Ljava/lang/AbstractStringBuilder;"⟩ : MethodName)) hown (hwd 41 rfl) (own_same (hwd 42 rfl) (hwd 64 rfl) rfl (by decide)) (hwd 42 rfl) (hwd 43 rfl) (by decide) (backOf (W := 0) (rmap00G l Z A0 hw [] t_a0 c_a0 k_t_a0 n_t_a0 fn_t_a0 t_a1 k_t_a1 n_t_a1 fn_t_a1 f_CS a0 a1 f_a0_maybeLatin1 h0 n0 Z0 P_E_a0 P_F_a0_coder P_F_a0_value P_F_a0_count P_V_t_a0 P_E_a1 P_F_a1_coder P_F_a1_value P_V_t_a1 P_S_CS hn_CS P_F_a0_maybeLatin1 hp_1 hp_2 hp_3 hp_4 hp_5 hp_6 hp_7 hp_8 hp_9 hp_10 hp_11 hp_12 g_a0 hp_14 hp_15 hp_16 hp_17) hZ (hwd 45 rfl) (hwd 26 rfl) (by decide) (by decide)) e0 (Ins.self P_E_a0) (g := (mkF m 2 #[vR a0, vR a1] [(.ref a1), (.ref a0)])) rfl (by rw [hml]; rfl) (hwd 45 rfl) (argsL := [(.ref a1)]) (rest := []) (lenOf pd_41 rfl) rfl (by show 2 * 0 + _ ≤ _; exact Nat.le_of_eq rfl) (own_e hby d5 2 rfl) (fun _ _ => ⟨rfl, e0, (by decide : 0 + 1 ≤ _), (by decide : 0 + 96 ≤ _)⟩)
 dsimp only [Pt.U, Pt.locs, Pt.cells, Pt.slots] at X1 l1 y1 z1 st1 hQ1
 subst l1 y1 z1
 obtain ⟨b2, b3, rfl, Nq1, Kq1, F4, F5, F6, F7, F8, hp9, hp10, F11, F12⟩ := hQ1
 have N1 := Fr.app N0 Nq1
 have K1 : Keep h0 T1.heap [a0] := (Keep.refl h0 [a0]).trans Kq1 ((allS (Or.inl (List.mem_of_getElem? (i := 0) rfl)) all0))
 have Z1 := ql Z0 Kq1.1
 have sz_b2 := ql (Keep.refl h0 [a0]).1 hp10
 refine qb (fun _ k => st1.trans k) ?_
 show qG p e below _ (T1.setTop (mkF m 5 #[vR a0, vR a1] [(.ref a0)]))
 refine qb (fun _ k => XS.pop X1.here hx rfl (own_e hby d5 3 rfl) rfl rfl k) ?_
 refine qb (fun _ k => XS.aloadN X1.here hx rfl (own_e hby d5 4 rfl) rfl rfl k) ?_
 exact own_retR X1 hx hrt (by decide) rfl (own_e hby d5 5 rfl) hlk rfl ⟨_, _, rfl, N1, K1, F4, F5, F6, F7, F8, hp9, sz_b2, F11, F12⟩ (by decide) (by decide)
theorem ef_ap10G (m : MethodId) (a0 a1 : Addr) : entryFrame m #[(.ref a0), (.ref a1)] 3 = mkF m 0 #[vR a0, vR a1, .unset] [] := rfl
def Qap10G (Z : State) (t_a0 : Addr) (c_a0 : Int32) (k_t_a0 : ClassId) (n_t_a0 : Int32) (fn_t_a0 : Nat → Int32) (t_a1 : Addr) (k_t_a1 : ClassId) (n_t_a1 : Int32) (fn_t_a1 : Nat → Int32) (f_CS : Int32) (f_SF : Value) (a0 a1 : Addr) (f_a0_maybeLatin1 : Int32) (h0 : Heap) (n0 : Nat) (v : Option Value) (h : Heap) (L : List Loc) : Prop := ∃ (r5001 : Addr) (kk5002 : ClassId) (gg5003 : Nat → Int32), v = some (.ref a0) ∧ Fr n0 L ∧ Keep h0 h [a0] ∧ (n0 ≤ r5001) ∧ (h0.size ≤ r5001) ∧ Exa Z h a0 "java/lang/StringBuilder" ∧ Fld Z h a0 cA "coder" "B" (.int 1) ∧ Fld Z h a0 cA "value" "[B" (.ref r5001) ∧ Fld Z h a0 cA "count" "I" (.int (c_a0 + n_t_a1)) ∧ Fld Z h a0 cA "maybeLatin1" "Z" (.int f_a0_maybeLatin1) ∧ Exa Z h r5001 "[B" ∧ qA Z h r5001 kk5002 .byte (((n_t_a0 + (((c_a0 + n_t_a1) <<< ((1 : Int32) &&& 31)) - n_t_a0)) >>> ((1 : Int32) &&& 31)) <<< ((1 : Int32) &&& 31)) (fun i => .int (gg5003 i)) ∧ ((∃ (b26_ap10G : Nat → Int32), ((∃ (b5_ps10 : Nat → Int32), ((∃ (b6_gb01 : Nat → Int32), ((∃ (b2_slL : Nat → Int32), (own_inf fn_t_a1 (own_cp fn_t_a0 0 (fun _ => (0 : Int32)) 0 (n_t_a0).toNatClampNeg) b2_slL (c_a0).toNatClampNeg (n_t_a1).toNatClampNeg) ∧ b6_gb01 = b2_slL)) ∧ b5_ps10 = b6_gb01)) ∧ b26_ap10G = b5_ps10)) ∧ gg5003 = b26_ap10G))
theorem rmap10G (l : Launch) (Z : State) (A0 : Array Value) (hw : ∀ d ∈ tables_1, d.before A0 Z = true) (ws : List Jvm.Cond) (t_a0 : Addr) (c_a0 : Int32) (k_t_a0 : ClassId) (n_t_a0 : Int32) (fn_t_a0 : Nat → Int32) (t_a1 : Addr) (k_t_a1 : ClassId) (n_t_a1 : Int32) (fn_t_a1 : Nat → Int32) (f_CS : Int32) (f_SF : Value) (a0 a1 : Addr) (f_a0_maybeLatin1 : Int32) (h0 : Heap) (n0 : Nat) (Z0 : n0 ≤ h0.size) (P_E_a0 : Exa Z h0 a0 "java/lang/StringBuilder") (P_F_a0_coder : Fld Z h0 a0 cA "coder" "B" (.int 1)) (P_F_a0_value : Fld Z h0 a0 cA "value" "[B" (.ref t_a0)) (P_F_a0_count : Fld Z h0 a0 cA "count" "I" (.int c_a0)) (P_V_t_a0 : qA Z h0 t_a0 k_t_a0 .byte n_t_a0 (fun i => .int (fn_t_a0 i))) (P_E_a1 : Exa Z h0 a1 "java/lang/String") (P_F_a1_coder : Fld Z h0 a1 cS "coder" "B" (.int 0)) (P_F_a1_value : Fld Z h0 a1 cS "value" "[B" (.ref t_a1)) (P_V_t_a1 : qA Z h0 t_a1 k_t_a1 .byte n_t_a1 (fun i => .int (fn_t_a1 i))) (P_S_CS : Sta Z h0 cS "COMPACT_STRINGS" "Z" (.int f_CS)) (hn_CS : ¬ (f_CS = (0 : Int32))) (P_S_SF : Sta Z h0 "jdk/internal/util/Preconditions" "SIOOBE_FORMATTER" "Ljava/util/function/BiFunction;" f_SF) (hr_f_SF : f_SF.isRef = true) (P_S_UD : Sta Z h0 cU "$assertionsDisabled" "Z" (.int 1)) (P_S_HI_BYTE_SHIFT : Sta Z h0 cU "HI_BYTE_SHIFT" "I" (.int 0)) (P_S_LO_BYTE_SHIFT : Sta Z h0 cU "LO_BYTE_SHIFT" "I" (.int 8)) (P_F_a0_maybeLatin1 : Fld Z h0 a0 cA "maybeLatin1" "Z" (.int f_a0_maybeLatin1)) (hp_2 : (0 : Int32) < ((c_a0 + n_t_a1) - (n_t_a0 >>> ((1 : Int32) &&& 31)))) (hp_3 : ¬ ((((c_a0 + n_t_a1) <<< ((1 : Int32) &&& 31)) - n_t_a0) < (n_t_a0 + (4 : Int32)))) (hp_4 : (0 : Int32) < (n_t_a0 + (((c_a0 + n_t_a1) <<< ((1 : Int32) &&& 31)) - n_t_a0))) (hp_5 : ¬ ((2147483639 : Int32) < (n_t_a0 + (((c_a0 + n_t_a1) <<< ((1 : Int32) &&& 31)) - n_t_a0)))) (hp_6 : ¬ ((n_t_a0 + (((c_a0 + n_t_a1) <<< ((1 : Int32) &&& 31)) - n_t_a0)) = (2147483647 : Int32))) (hp_7 : ¬ ((((n_t_a0 + (((c_a0 + n_t_a1) <<< ((1 : Int32) &&& 31)) - n_t_a0)) >>> ((1 : Int32) &&& 31)) <<< ((1 : Int32) &&& 31)) = n_t_a0)) (hp_8 : ¬ ((((n_t_a0 + (((c_a0 + n_t_a1) <<< ((1 : Int32) &&& 31)) - n_t_a0)) >>> ((1 : Int32) &&& 31)) <<< ((1 : Int32) &&& 31)) < (0 : Int32))) (hp_9 : ((((n_t_a0 + (((c_a0 + n_t_a1) <<< ((1 : Int32) &&& 31)) - n_t_a0)) >>> ((1 : Int32) &&& 31)) <<< ((1 : Int32) &&& 31))).toNatClampNeg ≤ 96) (hp_10 : ¬ ((((n_t_a0 + (((c_a0 + n_t_a1) <<< ((1 : Int32) &&& 31)) - n_t_a0)) >>> ((1 : Int32) &&& 31)) <<< ((1 : Int32) &&& 31)) < n_t_a0)) (hp_11 : ¬ n_t_a0 < 0) (hp_12 : 0 + (n_t_a0).toNatClampNeg ≤ (n_t_a0).toNatClampNeg) (hp_13 : 0 + (n_t_a0).toNatClampNeg ≤ ((((n_t_a0 + (((c_a0 + n_t_a1) <<< ((1 : Int32) &&& 31)) - n_t_a0)) >>> ((1 : Int32) &&& 31)) <<< ((1 : Int32) &&& 31))).toNatClampNeg) (g_a0 : n0 ≤ a0) (hp_15 : 0 ≤ (c_a0).toInt ∧ 0 ≤ (n_t_a1).toInt ∧ (c_a0).toInt + (n_t_a1).toInt ≤ 48 ∧ 2 * ((c_a0).toInt + (n_t_a1).toInt) ≤ ((((n_t_a0 + (((c_a0 + n_t_a1) <<< ((1 : Int32) &&& 31)) - n_t_a0)) >>> ((1 : Int32) &&& 31)) <<< ((1 : Int32) &&& 31))).toInt) (hp_16 : ¬ (((((((n_t_a0 + (((c_a0 + n_t_a1) <<< ((1 : Int32) &&& 31)) - n_t_a0)) >>> ((1 : Int32) &&& 31)) <<< ((1 : Int32) &&& 31)) >>> ((1 : Int32) &&& 31)) ||| c_a0) ||| n_t_a1) < (0 : Int32))) (hp_17 : ¬ ((((((n_t_a0 + (((c_a0 + n_t_a1) <<< ((1 : Int32) &&& 31)) - n_t_a0)) >>> ((1 : Int32) &&& 31)) <<< ((1 : Int32) &&& 31)) >>> ((1 : Int32) &&& 31)) - c_a0) < n_t_a1)) :
  qM l Z (⟨"java/lang/AbstractStringBuilder", "append", "(Ljava/lang/String;)Ljava/lang/AbstractStringBuilder;"⟩ : MethodName) jdk_68_method_22_code 3 (some (.object "java/lang/AbstractStringBuilder")) ws ({ frames := 7, cells := 1, slots := 96, locals := 105 } : Room) #[(.ref a0), (.ref a1)] h0 (Qap10G Z t_a0 c_a0 k_t_a0 n_t_a0 fn_t_a0 t_a1 k_t_a1 n_t_a1 fn_t_a1 f_CS f_SF a0 a1 f_a0_maybeLatin1 h0 n0) 1 96 := own_enter (plainFor_of_name pn_isl0) (fun m => ef_ap10G m a0 a1) fun p e s m below meth c s₁ hx hby hml hlk hown hnm X0 e0 hZ hrt => by
 have hwd := qw hw
 have N0 := Fr.nil n0
 show qG p e below _ (s₁.setTop (mkF m 0 #[vR a0, vR a1, .unset] []))
 refine qb (fun _ k => XS.aloadN X0.here hx rfl (own_e hby d6 0 rfl) rfl rfl k) ?_
 refine qb (fun _ k => XS.ifnonnullYes X0.here hx rfl (pc0 := 1) (pc' := 9) rfl (own_e hby d6 1 rfl) rfl (by decide) (by decide) k) ?_
 show qG p e below _ (s₁.setTop (mkF m 9 #[vR a0, vR a1, .unset] []))
 refine qb (fun _ k => XS.aloadN X0.here hx rfl (own_e hby d6 2 rfl) rfl rfl k) ?_
 obtain ⟨_, T1, Lc1, X1, hQ1, st1⟩ := own_cV X0 hx hZ hown hml (rmlen0 l Z A0 hw [] t_a1 k_t_a1 n_t_a1 fn_t_a1 f_CS a1 h0 n0 Z0 P_E_a1 P_F_a1_coder P_F_a1_value P_V_t_a1 P_S_CS hn_CS) (hwd 46 rfl) (hwd 48 rfl) (hwd 1 rfl) (hwd 50 rfl) (by decide) pd_46 e0 (hwd 47 rfl) (hwd 49 rfl) P_E_a1 (g := (mkF m 10 #[vR a0, vR a1, .unset] [(.ref a1)])) (rest := []) rfl rfl rfl rfl (own_e hby d6 3 rfl) rfl
 obtain ⟨rfl, Nq1, eq1⟩ := hQ1
 have N1 := Fr.app N0 Nq1
 refine qb st1 ?_
 show qG p e below _ (T1.setTop (mkF m 13 #[vR a0, vR a1, .unset] [(.int n_t_a1)]))
 refine qb (fun _ k => XS.istoreN X1.here hx rfl (own_e hby d6 4 rfl) rfl (l' := #[vR a0, vR a1, vI n_t_a1]) rfl k) ?_
 show qG p e below _ (T1.setTop (mkF m 14 #[vR a0, vR a1, vI n_t_a1] []))
 refine qb (fun _ k => XS.aloadN X1.here hx rfl (own_e hby d6 5 rfl) rfl rfl k) ?_
 refine qb (fun _ k => XS.aloadN X1.here hx rfl (own_e hby d6 6 rfl) rfl rfl k) ?_
 obtain ⟨T2, X2, e2, st2⟩ := getF X1 hx hZ hown (host := "") (Or.inl (hwd 59 rfl)) Via.refl eq1 P_F_a0_count (g := (mkF m 16 #[vR a0, vR a1, vI n_t_a1] [(.ref a0), (.ref a0)])) rfl rfl (own_e hby d6 7 rfl)
 refine qb st2 ?_
 refine qb (fun _ k => XS.iloadN X2.here hx rfl (own_e hby d6 8 rfl) rfl k) ?_
 refine qb (fun _ k => XS.iadd X2.here hx rfl (own_e hby d6 9 rfl) rfl k) ?_
 obtain ⟨_, T3, Lc3, X3, hQ3, st3⟩ := own_cP X2 hx hZ hown hml (rmecG1 l Z A0 hw [] t_a0 c_a0 k_t_a0 n_t_a0 fn_t_a0 a0 (c_a0 + n_t_a1) f_a0_maybeLatin1 h0 n0 Z0 P_E_a0 P_F_a0_coder P_F_a0_value P_F_a0_count P_V_t_a0 hp_2 hp_3 hp_4 hp_5 hp_6 hp_7 hp_8 hp_9 hp_10 hp_11 hp_12 hp_13 g_a0 P_F_a0_maybeLatin1) (hwd 61 rfl) (hwd 62 rfl) (hwd 26 rfl) (hwd 65 rfl) (by decide) pd_22 e2 (hwd 63 rfl) (own_selPriv2 hZ (hwd 64 rfl) (hwd 63 rfl) (hwd 62 rfl) (by decide)) P_E_a0 (g := (mkF m 21 #[vR a0, vR a1, vI n_t_a1] [(.int (c_a0 + n_t_a1)), (.ref a0)])) (rest := []) rfl rfl rfl rfl (own_e hby d6 10 rfl) rfl
 obtain ⟨b4, b5, rfl, Nq3, Kq3, F6, F7, F8, F9, F10, hp11, hp12, F13, F14⟩ := hQ3
 have N3 := Fr.app N1 Nq3
 have K3 : Keep h0 T3.heap [a0] := (Keep.refl h0 [a0]).trans Kq3 ((allS (Or.inl (List.mem_of_getElem? (i := 0) rfl)) all0))
 have Z3 := ql Z0 Kq3.1
 have sz_b4 := ql (Keep.refl h0 [a0]).1 hp12
 refine qb st3 ?_
 show qG p e below _ (T3.setTop (mkF m 24 #[vR a0, vR a1, vI n_t_a1] []))
 refine qb (fun _ k => XS.aloadN X3.here hx rfl (own_e hby d6 11 rfl) rfl rfl k) ?_
 refine qb (fun _ k => XS.aloadN X3.here hx rfl (own_e hby d6 12 rfl) rfl rfl k) ?_
 obtain ⟨T15, X15, e15, st15⟩ := getF X3 hx hZ hown (host := "") (Or.inl (hwd 59 rfl)) Via.refl rfl F9 (g := (mkF m 26 #[vR a0, vR a1, vI n_t_a1] [(.ref a0), (.ref a0)])) rfl rfl (own_e hby d6 13 rfl)
 refine qb st15 ?_
 refine qb (fun _ k => XS.aloadN X15.here hx rfl (own_e hby d6 14 rfl) rfl rfl k) ?_
 have F16 := (P_E_a1.keep Kq3)
 have F17 := (P_F_a1_coder.keep Kq3 (ninS (ne_exa F16 F6 (by decide)) nin0))
 have F18 := (P_F_a1_value.keep Kq3 (ninS (ne_exa F16 F6 (by decide)) nin0))
 have F19 := (P_V_t_a1.keep Kq3 (ninS (Ne.symm (own_neArr P_E_a0 (hwd 17 rfl) P_V_t_a1)) nin0))
 have F20 := qk P_S_CS Kq3 (allS (qx P_E_a0) all0)
 have F21 := qk P_S_SF Kq3 (allS (qx P_E_a0) all0)
 have F22 := qk P_S_UD Kq3 (allS (qx P_E_a0) all0)
 have F23 := qk P_S_HI_BYTE_SHIFT Kq3 (allS (qx P_E_a0) all0)
 have F24 := qk P_S_LO_BYTE_SHIFT Kq3 (allS (qx P_E_a0) all0)
 obtain ⟨_, T25, Lc25, X25, hQ25, st25⟩ := own_cP X15 hx hZ hown hml (rmps10 l Z A0 hw [] b4 c_a0 b5 (((n_t_a0 + (((c_a0 + n_t_a1) <<< ((1 : Int32) &&& 31)) - n_t_a0)) >>> ((1 : Int32) &&& 31)) <<< ((1 : Int32) &&& 31)) (own_cp fn_t_a0 0 (fun _ => (0 : Int32)) 0 (n_t_a0).toNatClampNeg) t_a1 k_t_a1 n_t_a1 fn_t_a1 f_CS f_SF a0 c_a0 a1 T3.heap n0 Z3 F6 F7 F8 F9 F14 F16 F17 F18 F19 F20 hn_CS F21 hr_f_SF F22 F23 F24 hp_15 hp_16 hp_17 (qn P_V_t_a1.lt hp12) hp11) (hwd 66 rfl) (hwd 67 rfl) (hwd 26 rfl) (hwd 70 rfl) (by decide) pd_66 e15 (hwd 68 rfl) (own_selPriv2 hZ (hwd 69 rfl) (hwd 68 rfl) (hwd 67 rfl) (by decide)) F6 (g := (mkF m 30 #[vR a0, vR a1, vI n_t_a1] [(.ref a1), (.int c_a0), (.ref a0)])) (rest := []) rfl rfl rfl rfl (own_e hby d6 15 rfl) rfl
 obtain ⟨b26, rfl, Nq25, Kq25, F27, hp28⟩ := hQ25
 have N25 := Fr.app N3 Nq25
 have K25 : Keep h0 T25.heap [a0] := K3.trans Kq25 ((allS (Or.inr sz_b4) all0))
 have Z25 := ql Z3 Kq25.1
 refine qb st25 ?_
 show qG p e below _ (T25.setTop (mkF m 33 #[vR a0, vR a1, vI n_t_a1] []))
 refine qb (fun _ k => XS.aloadN X25.here hx rfl (own_e hby d6 16 rfl) rfl rfl k) ?_
 refine qb (fun _ k => XS.dup X25.here hx rfl (own_e hby d6 17 rfl) rfl rfl k) ?_
 have F29 := (F9.keep Kq25 (ninS (qn P_E_a0.lt hp12) nin0))
 obtain ⟨T30, X30, e30, st30⟩ := getF X25 hx hZ hown (host := "") (Or.inl (hwd 59 rfl)) Via.refl rfl F29 (g := (mkF m 35 #[vR a0, vR a1, vI n_t_a1] [(.ref a0), (.ref a0)])) rfl rfl (own_e hby d6 18 rfl)
 refine qb st30 ?_
 refine qb (fun _ k => XS.iloadN X30.here hx rfl (own_e hby d6 19 rfl) rfl k) ?_
 refine qb (fun _ k => XS.iadd X30.here hx rfl (own_e hby d6 20 rfl) rfl k) ?_
 have F31 := (F6.keep Kq25)
 obtain ⟨T32, h32, X32, e32, W32, st32⟩ := putF X30 hx hZ hown (host := "") (Or.inl (hwd 59 rfl)) Via.refl e30 F29 F31 (Or.inl (hwd 60 rfl)) (hwd 17 rfl) (ty := .int) (by decide) rfl rfl (g := (mkF m 40 #[vR a0, vR a1, vI n_t_a1] [(.int (c_a0 + n_t_a1)), (.ref a0)])) rfl rfl (own_e hby d6 21 rfl)
 have Fw32 : Fld Z h32 a0 cA "count" "I" (.int (c_a0 + n_t_a1)) := F29.same W32
 have K32 : Keep h0 h32 [a0] := K25.wr W32 (Or.inl (List.mem_of_getElem? (i := 0) rfl))
 have Z32 := ql Z25 (Keep.of_wr W32).1
 have N32 := Fr.snoc X32 N25 g_a0
 refine qb st32 ?_
 show qG p e below _ (T32.setTop (mkF m 43 #[vR a0, vR a1, vI n_t_a1] []))
 refine qb (fun _ k => XS.aloadN X32.here hx rfl (own_e hby d6 22 rfl) rfl rfl k) ?_
 have F33 := (F31.wr W32)
 have F34 := ((F7.keep Kq25 (ninS (qn P_E_a0.lt hp12) nin0)).other W32 (Or.inr (slot_ne (Or.inl (hwd 35 rfl)) (Or.inl (hwd 60 rfl)) (by decide) (t := .byte) (t' := .int) (by decide) (by decide))))
 have F35 := ((F8.keep Kq25 (ninS (qn P_E_a0.lt hp12) nin0)).other W32 (Or.inr (slot_ne (Or.inl (hwd 33 rfl)) (Or.inl (hwd 60 rfl)) (by decide) (t := (.array .byte)) (t' := .int) (by decide) (by decide))))
 have F36 := ((F10.keep Kq25 (ninS (qn P_E_a0.lt hp12) nin0)).other W32 (Or.inr (slot_ne (Or.inl (hwd 299 rfl)) (Or.inl (hwd 60 rfl)) (by decide) (t := .boolean) (t' := .int) (by decide) (by decide))))
 have F37 := ((F13.keep Kq25).wr W32)
 have F38 := (F27.other W32 (qm P_E_a0.lt hp12))
 exact own_retR X32 hx hrt (by decide) rfl (own_e hby d6 23 rfl) hlk e32 ⟨b4, b5, b26, rfl, N32, K32, hp11, sz_b4, F33, F34, F35, Fw32, F36, F37, F38, ⟨b26, hp28, rfl⟩⟩ (by decide) (by decide)
theorem ef_a10G (m : MethodId) (a0 a1 : Addr) : entryFrame m #[(.ref a0), (.ref a1)] 2 = mkF m 0 #[vR a0, vR a1] [] := rfl
def Qa10G (Z : State) (t_a0 : Addr) (c_a0 : Int32) (k_t_a0 : ClassId) (n_t_a0 : Int32) (fn_t_a0 : Nat → Int32) (t_a1 : Addr) (k_t_a1 : ClassId) (n_t_a1 : Int32) (fn_t_a1 : Nat → Int32) (f_CS : Int32) (f_SF : Value) (a0 a1 : Addr) (f_a0_maybeLatin1 : Int32) (h0 : Heap) (n0 : Nat) (v : Option Value) (h : Heap) (L : List Loc) : Prop := ∃ (r5001 : Addr) (kk5002 : ClassId) (gg5003 : Nat → Int32), v = some (.ref a0) ∧ Fr n0 L ∧ Keep h0 h [a0] ∧ (n0 ≤ r5001) ∧ (h0.size ≤ r5001) ∧ Exa Z h a0 "java/lang/StringBuilder" ∧ Fld Z h a0 cA "coder" "B" (.int 1) ∧ Fld Z h a0 cA "value" "[B" (.ref r5001) ∧ Fld Z h a0 cA "count" "I" (.int (c_a0 + n_t_a1)) ∧ Fld Z h a0 cA "maybeLatin1" "Z" (.int f_a0_maybeLatin1) ∧ Exa Z h r5001 "[B" ∧ qA Z h r5001 kk5002 .byte (((n_t_a0 + (((c_a0 + n_t_a1) <<< ((1 : Int32) &&& 31)) - n_t_a0)) >>> ((1 : Int32) &&& 31)) <<< ((1 : Int32) &&& 31)) (fun i => .int (gg5003 i)) ∧ ((∃ (b4_a10G : Nat → Int32), ((∃ (b26_ap10G : Nat → Int32), ((∃ (b5_ps10 : Nat → Int32), ((∃ (b6_gb01 : Nat → Int32), ((∃ (b2_slL : Nat → Int32), (own_inf fn_t_a1 (own_cp fn_t_a0 0 (fun _ => (0 : Int32)) 0 (n_t_a0).toNatClampNeg) b2_slL (c_a0).toNatClampNeg (n_t_a1).toNatClampNeg) ∧ b6_gb01 = b2_slL)) ∧ b5_ps10 = b6_gb01)) ∧ b26_ap10G = b5_ps10)) ∧ b4_a10G = b26_ap10G)) ∧ gg5003 = b4_a10G))
theorem rma10G (l : Launch) (Z : State) (A0 : Array Value) (hw : ∀ d ∈ tables_1, d.before A0 Z = true) (ws : List Jvm.Cond) (t_a0 : Addr) (c_a0 : Int32) (k_t_a0 : ClassId) (n_t_a0 : Int32) (fn_t_a0 : Nat → Int32) (t_a1 : Addr) (k_t_a1 : ClassId) (n_t_a1 : Int32) (fn_t_a1 : Nat → Int32) (f_CS : Int32) (f_SF : Value) (a0 a1 : Addr) (f_a0_maybeLatin1 : Int32) (h0 : Heap) (n0 : Nat) (Z0 : n0 ≤ h0.size) (P_E_a0 : Exa Z h0 a0 "java/lang/StringBuilder") (P_F_a0_coder : Fld Z h0 a0 cA "coder" "B" (.int 1)) (P_F_a0_value : Fld Z h0 a0 cA "value" "[B" (.ref t_a0)) (P_F_a0_count : Fld Z h0 a0 cA "count" "I" (.int c_a0)) (P_V_t_a0 : qA Z h0 t_a0 k_t_a0 .byte n_t_a0 (fun i => .int (fn_t_a0 i))) (P_E_a1 : Exa Z h0 a1 "java/lang/String") (P_F_a1_coder : Fld Z h0 a1 cS "coder" "B" (.int 0)) (P_F_a1_value : Fld Z h0 a1 cS "value" "[B" (.ref t_a1)) (P_V_t_a1 : qA Z h0 t_a1 k_t_a1 .byte n_t_a1 (fun i => .int (fn_t_a1 i))) (P_S_CS : Sta Z h0 cS "COMPACT_STRINGS" "Z" (.int f_CS)) (hn_CS : ¬ (f_CS = (0 : Int32))) (P_S_SF : Sta Z h0 "jdk/internal/util/Preconditions" "SIOOBE_FORMATTER" "Ljava/util/function/BiFunction;" f_SF) (hr_f_SF : f_SF.isRef = true) (P_S_UD : Sta Z h0 cU "$assertionsDisabled" "Z" (.int 1)) (P_S_HI_BYTE_SHIFT : Sta Z h0 cU "HI_BYTE_SHIFT" "I" (.int 0)) (P_S_LO_BYTE_SHIFT : Sta Z h0 cU "LO_BYTE_SHIFT" "I" (.int 8)) (P_F_a0_maybeLatin1 : Fld Z h0 a0 cA "maybeLatin1" "Z" (.int f_a0_maybeLatin1)) (hp_2 : (0 : Int32) < ((c_a0 + n_t_a1) - (n_t_a0 >>> ((1 : Int32) &&& 31)))) (hp_3 : ¬ ((((c_a0 + n_t_a1) <<< ((1 : Int32) &&& 31)) - n_t_a0) < (n_t_a0 + (4 : Int32)))) (hp_4 : (0 : Int32) < (n_t_a0 + (((c_a0 + n_t_a1) <<< ((1 : Int32) &&& 31)) - n_t_a0))) (hp_5 : ¬ ((2147483639 : Int32) < (n_t_a0 + (((c_a0 + n_t_a1) <<< ((1 : Int32) &&& 31)) - n_t_a0)))) (hp_6 : ¬ ((n_t_a0 + (((c_a0 + n_t_a1) <<< ((1 : Int32) &&& 31)) - n_t_a0)) = (2147483647 : Int32))) (hp_7 : ¬ ((((n_t_a0 + (((c_a0 + n_t_a1) <<< ((1 : Int32) &&& 31)) - n_t_a0)) >>> ((1 : Int32) &&& 31)) <<< ((1 : Int32) &&& 31)) = n_t_a0)) (hp_8 : ¬ ((((n_t_a0 + (((c_a0 + n_t_a1) <<< ((1 : Int32) &&& 31)) - n_t_a0)) >>> ((1 : Int32) &&& 31)) <<< ((1 : Int32) &&& 31)) < (0 : Int32))) (hp_9 : ((((n_t_a0 + (((c_a0 + n_t_a1) <<< ((1 : Int32) &&& 31)) - n_t_a0)) >>> ((1 : Int32) &&& 31)) <<< ((1 : Int32) &&& 31))).toNatClampNeg ≤ 96) (hp_10 : ¬ ((((n_t_a0 + (((c_a0 + n_t_a1) <<< ((1 : Int32) &&& 31)) - n_t_a0)) >>> ((1 : Int32) &&& 31)) <<< ((1 : Int32) &&& 31)) < n_t_a0)) (hp_11 : ¬ n_t_a0 < 0) (hp_12 : 0 + (n_t_a0).toNatClampNeg ≤ (n_t_a0).toNatClampNeg) (hp_13 : 0 + (n_t_a0).toNatClampNeg ≤ ((((n_t_a0 + (((c_a0 + n_t_a1) <<< ((1 : Int32) &&& 31)) - n_t_a0)) >>> ((1 : Int32) &&& 31)) <<< ((1 : Int32) &&& 31))).toNatClampNeg) (g_a0 : n0 ≤ a0) (hp_15 : 0 ≤ (c_a0).toInt ∧ 0 ≤ (n_t_a1).toInt ∧ (c_a0).toInt + (n_t_a1).toInt ≤ 48 ∧ 2 * ((c_a0).toInt + (n_t_a1).toInt) ≤ ((((n_t_a0 + (((c_a0 + n_t_a1) <<< ((1 : Int32) &&& 31)) - n_t_a0)) >>> ((1 : Int32) &&& 31)) <<< ((1 : Int32) &&& 31))).toInt) (hp_16 : ¬ (((((((n_t_a0 + (((c_a0 + n_t_a1) <<< ((1 : Int32) &&& 31)) - n_t_a0)) >>> ((1 : Int32) &&& 31)) <<< ((1 : Int32) &&& 31)) >>> ((1 : Int32) &&& 31)) ||| c_a0) ||| n_t_a1) < (0 : Int32))) (hp_17 : ¬ ((((((n_t_a0 + (((c_a0 + n_t_a1) <<< ((1 : Int32) &&& 31)) - n_t_a0)) >>> ((1 : Int32) &&& 31)) <<< ((1 : Int32) &&& 31)) >>> ((1 : Int32) &&& 31)) - c_a0) < n_t_a1)) :
  qM l Z (⟨"java/lang/StringBuilder", "append", "(Ljava/lang/String;)Ljava/lang/StringBuilder;"⟩ : MethodName) jdk_67_method_7_code 2 (some (.object "java/lang/StringBuilder")) ws ({ frames := 8, cells := 1, slots := 96, locals := 119 } : Room) #[(.ref a0), (.ref a1)] h0 (Qa10G Z t_a0 c_a0 k_t_a0 n_t_a0 fn_t_a0 t_a1 k_t_a1 n_t_a1 fn_t_a1 f_CS f_SF a0 a1 f_a0_maybeLatin1 h0 n0) 1 96 := own_enter (plainFor_of_name pn_sbi) (fun m => ef_a10G m a0 a1) fun p e s m below meth c s₁ hx hby hml hlk hown hnm X0 e0 hZ hrt => by
 have hwd := qw hw
 have N0 := Fr.nil n0
 show qG p e below _ (s₁.setTop (mkF m 0 #[vR a0, vR a1] []))
 refine qb (fun _ k => XS.aloadN X0.here hx rfl (own_e hby d5 0 rfl) rfl rfl k) ?_
 refine qb (fun _ k => XS.aloadN X0.here hx rfl (own_e hby d5 1 rfl) rfl rfl k) ?_
 obtain ⟨_, _, ⟨T1, L1, k1, n1⟩, -, X1, ⟨Lc1, hQ1, l1, y1, z1⟩, st1⟩ := superBack X0 hx hZ (y := (⟨"java/lang/AbstractStringBuilder", "append", "(Ljava/lang/String;)Ljava/lang/AbstractStringBuilder;"⟩ : MethodName)) hown (hwd 41 rfl) (own_same (hwd 42 rfl) (hwd 64 rfl) rfl (by decide)) (hwd 42 rfl) (hwd 43 rfl) (by decide) (backOf (W := 0) (rmap10G l Z A0 hw [] t_a0 c_a0 k_t_a0 n_t_a0 fn_t_a0 t_a1 k_t_a1 n_t_a1 fn_t_a1 f_CS f_SF a0 a1 f_a0_maybeLatin1 h0 n0 Z0 P_E_a0 P_F_a0_coder P_F_a0_value P_F_a0_count P_V_t_a0 P_E_a1 P_F_a1_coder P_F_a1_value P_V_t_a1 P_S_CS hn_CS P_S_SF hr_f_SF P_S_UD P_S_HI_BYTE_SHIFT P_S_LO_BYTE_SHIFT P_F_a0_maybeLatin1 hp_2 hp_3 hp_4 hp_5 hp_6 hp_7 hp_8 hp_9 hp_10 hp_11 hp_12 hp_13 g_a0 hp_15 hp_16 hp_17) hZ (hwd 45 rfl) (hwd 26 rfl) (by decide) (by decide)) e0 (Ins.self P_E_a0) (g := (mkF m 2 #[vR a0, vR a1] [(.ref a1), (.ref a0)])) rfl (by rw [hml]; rfl) (hwd 45 rfl) (argsL := [(.ref a1)]) (rest := []) (lenOf pd_41 rfl) rfl (by show 2 * 0 + _ ≤ _; exact Nat.le_of_eq rfl) (own_e hby d5 2 rfl) (fun _ _ => ⟨rfl, e0, (by decide : 0 + 1 ≤ _), (by decide : 0 + 96 ≤ _)⟩)
 dsimp only [Pt.U, Pt.locs, Pt.cells, Pt.slots] at X1 l1 y1 z1 st1 hQ1
 subst l1 y1 z1
 obtain ⟨b2, b3, b4, rfl, Nq1, Kq1, hp5, hp6, F7, F8, F9, F10, F11, F12, F13, hp14⟩ := hQ1
 have N1 := Fr.app N0 Nq1
 have K1 : Keep h0 T1.heap [a0] := (Keep.refl h0 [a0]).trans Kq1 ((allS (Or.inl (List.mem_of_getElem? (i := 0) rfl)) all0))
 have Z1 := ql Z0 Kq1.1
 have sz_b2 := ql (Keep.refl h0 [a0]).1 hp6
 refine qb (fun _ k => st1.trans k) ?_
 show qG p e below _ (T1.setTop (mkF m 5 #[vR a0, vR a1] [(.ref a0)]))
 refine qb (fun _ k => XS.pop X1.here hx rfl (own_e hby d5 3 rfl) rfl rfl k) ?_
 refine qb (fun _ k => XS.aloadN X1.here hx rfl (own_e hby d5 4 rfl) rfl rfl k) ?_
 exact own_retR X1 hx hrt (by decide) rfl (own_e hby d5 5 rfl) hlk rfl ⟨b2, b3, b4, rfl, N1, K1, hp5, sz_b2, F7, F8, F9, F10, F11, F12, F13, ⟨b4, hp14, rfl⟩⟩ (by decide) (by decide)
theorem d21 : own_ds jdk_68_method_64_code [(0, .aload_n 0, 1), (1, .getfield 15, 3), (4, .areturn, 1)] = true := by decide +kernel
theorem ef_getv (m : MethodId) (a0 : Addr) : entryFrame m #[(.ref a0)] 1 = mkF m 0 #[vR a0] [] := rfl
def Qgetv (Z : State) (a0 f_a0_value : Addr) (h0 : Heap) (n0 : Nat) (v : Option Value) (h : Heap) (L : List Loc) : Prop := v = some (.ref f_a0_value) ∧ Fr n0 L ∧ h = h0
theorem rmgetv (l : Launch) (Z : State) (A0 : Array Value) (hw : ∀ d ∈ tables_1, d.before A0 Z = true) (ws : List Jvm.Cond) (a0 f_a0_value : Addr) (h0 : Heap) (n0 : Nat) (Z0 : n0 ≤ h0.size) (P_F_a0_value : Fld Z h0 a0 cA "value" "[B" (.ref f_a0_value)) :
  qM l Z (⟨"java/lang/AbstractStringBuilder", "getValue", "()[B"⟩ : MethodName) jdk_68_method_64_code 1 (some (.array .byte)) ws ({ frames := 0, cells := 0, slots := 0, locals := 0 } : Room) #[(.ref a0)] h0 (Qgetv Z a0 f_a0_value h0 n0) 0 0 := own_enter (plainFor_of_name pn_isl0) (fun m => ef_getv m a0) fun p e s m below meth c s₁ hx hby hml hlk hown hnm X0 e0 hZ hrt => by
 have hwd := qw hw
 have N0 := Fr.nil n0
 show qG p e below _ (s₁.setTop (mkF m 0 #[vR a0] []))
 refine qb (fun _ k => XS.aloadN X0.here hx rfl (own_e hby d21 0 rfl) rfl rfl k) ?_
 obtain ⟨T1, X1, e1, st1⟩ := getF X0 hx hZ hown (host := "") (Or.inl (hwd 32 rfl)) Via.refl e0 P_F_a0_value (g := (mkF m 1 #[vR a0] [(.ref a0)])) rfl rfl (own_e hby d21 1 rfl)
 refine qb st1 ?_
 exact own_retR X1 hx hrt (by decide) rfl (own_e hby d21 2 rfl) hlk e1 ⟨rfl, N0, rfl⟩ (by decide) (by decide)
theorem d23 : own_ds jdk_68_method_6_code [(0, .aload_n 0, 1), (1, .getfield 79, 3), (4, .ireturn, 1)] = true := by decide +kernel
theorem ef_alen (m : MethodId) (a0 : Addr) : entryFrame m #[(.ref a0)] 1 = mkF m 0 #[vR a0] [] := rfl
def Qalen (Z : State) (a0 : Addr) (f_a0_count : Int32) (h0 : Heap) (n0 : Nat) (v : Option Value) (h : Heap) (L : List Loc) : Prop := v = some (.int f_a0_count) ∧ Fr n0 L ∧ h = h0
theorem rmalen (l : Launch) (Z : State) (A0 : Array Value) (hw : ∀ d ∈ tables_1, d.before A0 Z = true) (ws : List Jvm.Cond) (a0 : Addr) (f_a0_count : Int32) (h0 : Heap) (n0 : Nat) (Z0 : n0 ≤ h0.size) (P_F_a0_count : Fld Z h0 a0 cA "count" "I" (.int f_a0_count)) :
  qM l Z (⟨"java/lang/AbstractStringBuilder", "length", "()I"⟩ : MethodName) jdk_68_method_6_code 1 (some .int) ws ({ frames := 0, cells := 0, slots := 0, locals := 0 } : Room) #[(.ref a0)] h0 (Qalen Z a0 f_a0_count h0 n0) 0 0 := own_enter (plainFor_of_name pn_isl0) (fun m => ef_alen m a0) fun p e s m below meth c s₁ hx hby hml hlk hown hnm X0 e0 hZ hrt => by
 have hwd := qw hw
 have N0 := Fr.nil n0
 show qG p e below _ (s₁.setTop (mkF m 0 #[vR a0] []))
 refine qb (fun _ k => XS.aloadN X0.here hx rfl (own_e hby d23 0 rfl) rfl rfl k) ?_
 obtain ⟨T1, X1, e1, st1⟩ := getF X0 hx hZ hown (host := "") (Or.inl (hwd 59 rfl)) Via.refl e0 P_F_a0_count (g := (mkF m 1 #[vR a0] [(.ref a0)])) rfl rfl (own_e hby d23 1 rfl)
 refine qb st1 ?_
 exact own_retI X1 hx hrt (own_e hby d23 2 rfl) hlk e1 ⟨rfl, N0, rfl⟩ (by decide) (by decide)
theorem d22 : own_ds jdk_67_method_93_code [(0, .aload_n 0, 1), (1, .invokespecial 343, 3), (4, .ireturn, 1)] = true := by decide +kernel
theorem ef_blen (m : MethodId) (a0 : Addr) : entryFrame m #[(.ref a0)] 1 = mkF m 0 #[vR a0] [] := rfl
def Qblen (Z : State) (a0 : Addr) (f_a0_count : Int32) (h0 : Heap) (n0 : Nat) (v : Option Value) (h : Heap) (L : List Loc) : Prop := v = some (.int f_a0_count) ∧ Fr n0 L ∧ h = h0
theorem rmblen (l : Launch) (Z : State) (A0 : Array Value) (hw : ∀ d ∈ tables_1, d.before A0 Z = true) (ws : List Jvm.Cond) (a0 : Addr) (f_a0_count : Int32) (h0 : Heap) (n0 : Nat) (Z0 : n0 ≤ h0.size) (P_E_a0 : Exa Z h0 a0 "java/lang/StringBuilder") (P_F_a0_count : Fld Z h0 a0 cA "count" "I" (.int f_a0_count)) :
  qM l Z (⟨"java/lang/StringBuilder", "length", "()I"⟩ : MethodName) jdk_67_method_93_code 1 (some .int) ws ({ frames := 1, cells := 0, slots := 0, locals := 12 } : Room) #[(.ref a0)] h0 (Qblen Z a0 f_a0_count h0 n0) 0 0 := own_enter (plainFor_of_name pn_sbi) (fun m => ef_blen m a0) fun p e s m below meth c s₁ hx hby hml hlk hown hnm X0 e0 hZ hrt => by
 have hwd := qw hw
 have N0 := Fr.nil n0
 show qG p e below _ (s₁.setTop (mkF m 0 #[vR a0] []))
 refine qb (fun _ k => XS.aloadN X0.here hx rfl (own_e hby d22 0 rfl) rfl rfl k) ?_
 obtain ⟨_, _, ⟨T1, L1, k1, n1⟩, -, X1, ⟨Lc1, hQ1, l1, y1, z1⟩, st1⟩ := superBack X0 hx hZ (y := (⟨"java/lang/AbstractStringBuilder", "length", "()I"⟩ : MethodName)) hown (hwd 135 rfl) (own_same (hwd 131 rfl) (hwd 64 rfl) rfl (by decide)) (hwd 131 rfl) (hwd 43 rfl) (by decide) (backOf (W := 0) (rmalen l Z A0 hw [] a0 f_a0_count h0 n0 Z0 P_F_a0_count) hZ (hwd 136 rfl) (hwd 26 rfl) (by decide) (by decide)) e0 (Ins.self P_E_a0) (g := (mkF m 1 #[vR a0] [(.ref a0)])) rfl (by rw [hml]; rfl) (hwd 136 rfl) (argsL := []) (rest := []) (lenOf pd_46 rfl) rfl (by show 2 * 0 + _ ≤ _; exact Nat.le_of_eq rfl) (own_e hby d22 1 rfl) (fun _ _ => ⟨rfl, e0, (by decide : 0 + 0 ≤ _), (by decide : 0 + 0 ≤ _)⟩)
 dsimp only [Pt.U, Pt.locs, Pt.cells, Pt.slots] at X1 l1 y1 z1 st1 hQ1
 subst l1 y1 z1
 obtain ⟨rfl, Nq1, eq1⟩ := hQ1
 have N1 := Fr.app N0 Nq1
 refine qb (fun _ k => st1.trans k) ?_
 show qG p e below _ (T1.setTop (mkF m 4 #[vR a0] [(.int f_a0_count)]))
 exact own_retI X1 hx hrt (own_e hby d22 2 rfl) hlk eq1 ⟨rfl, N1, rfl⟩ (by decide) (by decide)
theorem d25 : own_ds jdk_65_method_132_code [(0, .iload_n 1, 1), (1, .ifCond .ne 9, 3), (4, .iload_n 2, 1), (5, .aload_n 0, 1), (6, .arraylength, 1), (7, .if_icmp .eq 10, 3), (17, .aload_n 0, 1), (18, .invokevirtual 310, 3), (21, .checkcast 311, 3), (24, .areturn, 1)] = true := by decide +kernel
theorem ef_cor (m : MethodId) (a0 : Addr) (p2 : Int32) : entryFrame m #[(.ref a0), (.int 0), (.int p2)] 3 = mkF m 0 #[vR a0, vI 0, vI p2] [] := rfl
def Qcor (Z : State) (k_a0 : ClassId) (n_a0 : Int32) (fn_a0 : Nat → Int32) (a0 : Addr) (p2 : Int32) (h0 : Heap) (n0 : Nat) (v : Option Value) (h : Heap) (L : List Loc) : Prop := ∃ (b2 : Addr), v = some (.ref b2) ∧ Fr n0 L ∧ Keep h0 h [] ∧ (n0 ≤ b2) ∧ (h0.size ≤ b2) ∧ qA Z h b2 k_a0 .byte n_a0 (fun i => .int (fn_a0 i)) ∧ Exa Z h b2 "[B"
theorem rmcor (l : Launch) (Z : State) (A0 : Array Value) (hw : ∀ d ∈ tables_1, d.before A0 Z = true) (ws : List Jvm.Cond) (k_a0 : ClassId) (n_a0 : Int32) (fn_a0 : Nat → Int32) (a0 : Addr) (p2 : Int32) (h0 : Heap) (n0 : Nat) (Z0 : n0 ≤ h0.size) (P_E_a0 : Exa Z h0 a0 "[B") (P_V_a0 : qA Z h0 a0 k_a0 .byte n_a0 (fun i => .int (fn_a0 i))) (ha7 : p2 = n_a0) (hp_1 : (n_a0).toNatClampNeg ≤ 96) :
  qM l Z (⟨"java/util/Arrays", "copyOfRange", "([BII)[B"⟩ : MethodName) jdk_65_method_132_code 3 (some (.array .byte)) ws ({ frames := 1, cells := 1, slots := 96, locals := 14 } : Room) #[(.ref a0), (.int 0), (.int p2)] h0 (Qcor Z k_a0 n_a0 fn_a0 a0 p2 h0 n0) 1 96 := own_enter (plainFor_of_name pn_cof) (fun m => ef_cor m a0 p2) fun p e s m below meth c s₁ hx hby hml hlk hown hnm X0 e0 hZ hrt => by
 have hwd := qw hw
 have N0 := Fr.nil n0
 show qG p e below _ (s₁.setTop (mkF m 0 #[vR a0, vI 0, vI p2] []))
 refine qb (fun _ k => XS.iloadN X0.here hx rfl (own_e hby d25 0 rfl) rfl k) ?_
 refine qb (fun _ k => XS.ifNo X0.here hx rfl (own_e hby d25 1 rfl) rfl ((if0 _ _).trans (teq (by decide : (0 : Int32) = (0 : Int32))).2) k) ?_
 show qG p e below _ (s₁.setTop (mkF m 4 #[vR a0, vI 0, vI p2] []))
 refine qb (fun _ k => XS.iloadN X0.here hx rfl (own_e hby d25 2 rfl) rfl k) ?_
 refine qb (fun _ k => XS.aloadN X0.here hx rfl (own_e hby d25 3 rfl) rfl rfl k) ?_
 obtain ⟨cl1, Ar1, qq1, S1, M1, H1, G1⟩ := id P_V_a0
 refine qb (fun t k => X0.arraylength hx (by rw [e0]; exact Ar1.1) (State.isArrayOf_alike hZ.alike Ar1.2.1) (g := (mkF m 6 #[vR a0, vI 0, vI p2] [(.ref a0), (.int p2)])) rfl rfl (own_e hby d25 4 rfl) _ k) ?_
 rw [len_of S1 M1]
 show qG p e below _ (s₁.setTop (mkF m 7 #[vR a0, vI 0, vI p2] [(.int n_a0), (.int p2)]))
 refine qb (fun _ k => XS.icmpYes X0.here hx rfl (pc0 := 7) (pc' := 17) rfl (own_e hby d25 5 rfl) rfl (teq ha7).1 (by decide) (by decide) k) ?_
 show qG p e below _ (s₁.setTop (mkF m 17 #[vR a0, vI 0, vI p2] []))
 refine qb (fun _ k => XS.aloadN X0.here hx rfl (own_e hby d25 6 rfl) rfl rfl k) ?_
 obtain ⟨T2, h2, X2, e2, E2, V2, Ax2, st2⟩ := own_clone X0 hx hZ hown (hwd 145 rfl) (hwd 146 rfl) (hwd 150 rfl) (hwd 148 rfl) (hwd 149 rfl) (hwd 151 rfl) e0 P_V_a0 P_E_a0 (g := (mkF m 18 #[vR a0, vI 0, vI p2] [(.ref a0)])) rfl (by rw [hml]; rfl) rfl (own_e hby d25 7 rfl) (by decide) (W := 0) (by show 2 * 0 + _ ≤ _; exact Nat.le_of_eq rfl) (by decide) (cap := 96) hp_1 (by decide) (by decide)
 obtain ⟨b2, g2⟩ : ∃ z, z = h0.size := ⟨_, rfl⟩
 have ge_b2 : n0 ≤ b2 := ql Z0 (Nat.le_of_eq g2.symm)
 have sz_b2 := ql (Keep.refl h0 []).1 (Nat.le_of_eq g2.symm)
 have K2 : Keep h0 h2 [] := (Keep.refl h0 []).ext E2
 have Z2 := ql Z0 E2.1
 rw [← g2] at V2 Ax2 st2
 refine qb st2 ?_
 show qG p e below _ (T2.setTop (mkF m 21 #[vR a0, vI 0, vI p2] [(.ref b2)]))
 obtain ⟨T3, X3, e3, st3⟩ := castY X2 hx hZ hown (hwd 152 rfl) e2 (Ins.self Ax2) (g := (mkF m 21 #[vR a0, vI 0, vI p2] [(.ref b2)])) rfl rfl (own_e hby d25 8 rfl)
 refine qb st3 ?_
 show qG p e below _ (T3.setTop (mkF m 24 #[vR a0, vI 0, vI p2] [(.ref b2)]))
 exact own_retR X3 hx hrt (by decide) rfl (own_e hby d25 9 rfl) hlk e3 ⟨_, rfl, N0, K2, ge_b2, sz_b2, V2, Ax2⟩ (by decide) (by decide)
theorem pd_124 : parseMethodDescriptor "()[B" = some ⟨[], some (.array .byte)⟩ := by decide +kernel
theorem pd_142 : parseMethodDescriptor "([BII)[B" = some ⟨[(.array .byte), .int, .int], some (.array .byte)⟩ := by decide +kernel
theorem d20 : own_ds jdk_42_method_150_code [(0, .aload_n 0, 1), (1, .invokespecial 1, 3), (4, .aload_n 1, 1), (5, .invokevirtual 552, 3), (8, .astore_n 3, 1), (9, .aload_n 1, 1), (10, .invokevirtual 549, 3), (13, .istore 4, 2), (15, .aload_n 1, 1), (16, .invokevirtual 1047, 3), (19, .ifCond .eq 22, 3), (22, .aload_n 0, 1), (23, .iconst 0, 1), (24, .putfield 15, 3), (27, .aload_n 0, 1), (28, .aload_n 3, 1), (29, .iconst 0, 1), (30, .iload 4, 2), (32, .invokestatic 54, 3), (35, .putfield 9, 3), (38, .goto 59, 3), (41, .getstatic 38, 3), (44, .ifCond .eq 35, 3), (47, .aload_n 1, 1), (48, .getfield 1048, 3), (51, .ifCond .eq 28, 3), (79, .aload_n 0, 1), (80, .iconst 1, 1), (81, .putfield 15, 3), (84, .aload_n 0, 1), (85, .aload_n 3, 1), (86, .iconst 0, 1), (87, .iload 4, 2), (89, .iconst 1, 1), (90, .ishl, 1), (91, .invokestatic 54, 3), (94, .putfield 9, 3), (97, .return_, 1)] = true := by decide +kernel
theorem ef_sisL (m : MethodId) (a0 a1 : Addr) : entryFrame m #[(.ref a0), (.ref a1), .null] 5 = mkF m 0 #[vR a0, vR a1, .val .null, .unset, .unset] [] := rfl
def QsisL (Z : State) (t_a1 : Addr) (c_a1 : Int32) (k_t_a1 : ClassId) (n_t_a1 : Int32) (fn_t_a1 : Nat → Int32) (f_CS : Int32) (a0 a1 : Addr) (f_a0_coder : Int32) (f_a0_value : Value) (h0 : Heap) (n0 : Nat) (v : Option Value) (h : Heap) (L : List Loc) : Prop := ∃ (b9 : Addr), v = none ∧ Fr n0 L ∧ Keep h0 h [a0] ∧ Exa Z h a0 "java/lang/String" ∧ Fld Z h a0 cS "coder" "B" (.int (nar .byte (0 : Int32))) ∧ Fld Z h a0 cS "value" "[B" (.ref b9) ∧ (n0 ≤ b9) ∧ (h0.size ≤ b9) ∧ qA Z h b9 k_t_a1 .byte n_t_a1 (fun i => .int (fn_t_a1 i)) ∧ Exa Z h b9 "[B"
theorem rmsisL (l : Launch) (Z : State) (A0 : Array Value) (hw : ∀ d ∈ tables_1, d.before A0 Z = true) (ws : List Jvm.Cond) (t_a1 : Addr) (c_a1 : Int32) (k_t_a1 : ClassId) (n_t_a1 : Int32) (fn_t_a1 : Nat → Int32) (f_CS : Int32) (a0 a1 : Addr) (f_a0_coder : Int32) (f_a0_value : Value) (h0 : Heap) (n0 : Nat) (Z0 : n0 ≤ h0.size) (P_E_a0 : Exa Z h0 a0 "java/lang/String") (P_E_a1 : Exa Z h0 a1 "java/lang/StringBuilder") (P_F_a1_coder : Fld Z h0 a1 cA "coder" "B" (.int 0)) (P_F_a1_value : Fld Z h0 a1 cA "value" "[B" (.ref t_a1)) (P_F_a1_count : Fld Z h0 a1 cA "count" "I" (.int c_a1)) (P_V_t_a1 : qA Z h0 t_a1 k_t_a1 .byte n_t_a1 (fun i => .int (fn_t_a1 i))) (P_E_t_a1 : Exa Z h0 t_a1 "[B") (P_S_CS : Sta Z h0 cS "COMPACT_STRINGS" "Z" (.int f_CS)) (hn_CS : ¬ (f_CS = (0 : Int32))) (P_F_a0_coder : Fld Z h0 a0 cS "coder" "B" (.int f_a0_coder)) (g_a0 : n0 ≤ a0) (hp_2 : c_a1 = n_t_a1) (hp_3 : (n_t_a1).toNatClampNeg ≤ 96) (P_F_a0_value : Fld Z h0 a0 cS "value" "[B" f_a0_value) :
  qM l Z (⟨"java/lang/String", "<init>", "(Ljava/lang/AbstractStringBuilder;Ljava/lang/Void;)V"⟩ : MethodName) jdk_42_method_150_code 5 none ws ({ frames := 2, cells := 1, slots := 96, locals := 29 } : Room) #[(.ref a0), (.ref a1), .null] h0 (QsisL Z t_a1 c_a1 k_t_a1 n_t_a1 fn_t_a1 f_CS a0 a1 f_a0_coder f_a0_value h0 n0) 1 96 := own_enter (plainFor_of_name pn_si4L) (fun m => ef_sisL m a0 a1) fun p e s m below meth c s₁ hx hby hml hlk hown hnm X0 e0 hZ hrt => by
 have hwd := qw hw
 have N0 := Fr.nil n0
 show qG p e below _ (s₁.setTop (mkF m 0 #[vR a0, vR a1, .val .null, .unset, .unset] []))
 refine qb (fun _ k => XS.aloadN X0.here hx rfl (own_e hby d20 0 rfl) rfl rfl k) ?_
 obtain ⟨T1, X1, e1, st1⟩ := initO X0 hx hZ hown (hwd 123 rfl) (hwd 29 rfl) (hwd 30 rfl) e0 (g := (mkF m 1 #[vR a0, vR a1, .val .null, .unset, .unset] [(.ref a0)])) rfl (by rw [hml]; rfl) rfl (own_e hby d20 1 rfl) (by decide) (W := 0) (by show 2 * 0 + _ ≤ _; exact Nat.le_of_eq rfl) (by decide)
 refine qb st1 ?_
 show qG p e below _ (T1.setTop (mkF m 4 #[vR a0, vR a1, .val .null, .unset, .unset] []))
 refine qb (fun _ k => XS.aloadN X1.here hx rfl (own_e hby d20 2 rfl) rfl rfl k) ?_
 obtain ⟨_, T2, Lc2, X2, hQ2, st2⟩ := own_cV X1 hx hZ hown hml (rmgetv l Z A0 hw [] a1 t_a1 h0 n0 Z0 P_F_a1_value) (hwd 124 rfl) (hwd 126 rfl) (hwd 26 rfl) (hwd 128 rfl) (by decide) pd_124 e1 (hwd 125 rfl) (hwd 127 rfl) P_E_a1 (g := (mkF m 5 #[vR a0, vR a1, .val .null, .unset, .unset] [(.ref a1)])) (rest := []) rfl rfl rfl rfl (own_e hby d20 3 rfl) rfl
 obtain ⟨rfl, Nq2, eq2⟩ := hQ2
 have N2 := Fr.app N0 Nq2
 refine qb st2 ?_
 show qG p e below _ (T2.setTop (mkF m 8 #[vR a0, vR a1, .val .null, .unset, .unset] [(.ref t_a1)]))
 refine qb (fun _ k => XS.astoreN X2.here hx rfl (own_e hby d20 4 rfl) rfl rfl (l' := #[vR a0, vR a1, .val .null, vR t_a1, .unset]) rfl k) ?_
 show qG p e below _ (T2.setTop (mkF m 9 #[vR a0, vR a1, .val .null, vR t_a1, .unset] []))
 refine qb (fun _ k => XS.aloadN X2.here hx rfl (own_e hby d20 5 rfl) rfl rfl k) ?_
 obtain ⟨cq3, kq3, qq3a, qq3b, qq3c⟩ := isOf hZ eq2 P_E_a1
 obtain ⟨_, _, ⟨T3, L3, k3, n3⟩, -, X3, ⟨Lc3, hQ3, l3, y3, z3⟩, st3⟩ := X2.virtualBack hx (y := (⟨"java/lang/AbstractStringBuilder", "length", "()I"⟩ : MethodName)) (z := (⟨"java/lang/StringBuilder", "length", "()I"⟩ : MethodName)) hown (mvT hZ (hwd 129 rfl)) (mvT hZ (hwd 130 rfl)) (own_notFace (args := #[]) (mvT hZ (hwd 64 rfl)) rfl) (mvT hZ (hwd 132 rfl)) (mvT hZ (hwd 133 rfl)) (by decide) (backOf (W := 0) (rmblen l Z A0 hw [] a1 c_a1 h0 n0 Z0 P_E_a1 P_F_a1_count) hZ (hwd 134 rfl) (hwd 18 rfl) (by decide) (by decide)) qq3a qq3c (g := (mkF m 10 #[vR a0, vR a1, .val .null, vR t_a1, .unset] [(.ref a1)])) rfl (by rw [hml]; rfl) (Steps.refl _) (argsL := []) (rest := []) (lenOf pd_46 rfl) rfl (by show 2 * 0 + _ ≤ _; exact Nat.le_of_eq rfl) (own_e hby d20 6 rfl) (fun _ _ => ⟨rfl, eq2, (by decide : 0 + 0 ≤ _), (by decide : 0 + 0 ≤ _)⟩)
 dsimp only [Pt.U, Pt.locs, Pt.cells, Pt.slots] at X3 l3 y3 z3 st3 hQ3
 subst l3 y3 z3
 obtain ⟨rfl, Nq3, eq3⟩ := hQ3
 have N3 := Fr.app N2 Nq3
 refine qb (fun _ k => st3.trans k) ?_
 show qG p e below _ (T3.setTop (mkF m 13 #[vR a0, vR a1, .val .null, vR t_a1, .unset] [(.int c_a1)]))
 refine qb (fun _ k => XS.istore X3.here hx rfl (own_e hby d20 7 rfl) rfl (l' := #[vR a0, vR a1, .val .null, vR t_a1, vI c_a1]) rfl k) ?_
 show qG p e below _ (T3.setTop (mkF m 15 #[vR a0, vR a1, .val .null, vR t_a1, vI c_a1] []))
 refine qb (fun _ k => XS.aloadN X3.here hx rfl (own_e hby d20 8 rfl) rfl rfl k) ?_
 obtain ⟨_, T4, Lc4, X4, hQ4, st4⟩ := own_cV X3 hx hZ hown hml (rmisl0 l Z A0 hw [] f_CS a1 h0 n0 Z0 P_E_a1 P_F_a1_coder P_S_CS hn_CS) (hwd 137 rfl) (hwd 139 rfl) (hwd 26 rfl) (hwd 141 rfl) (by decide) pd_137 eq3 (hwd 138 rfl) (hwd 140 rfl) P_E_a1 (g := (mkF m 16 #[vR a0, vR a1, .val .null, vR t_a1, vI c_a1] [(.ref a1)])) (rest := []) rfl rfl rfl rfl (own_e hby d20 9 rfl) rfl
 obtain ⟨rfl, Nq4, eq4⟩ := hQ4
 have N4 := Fr.app N3 Nq4
 refine qb st4 ?_
 show qG p e below _ (T4.setTop (mkF m 19 #[vR a0, vR a1, .val .null, vR t_a1, vI c_a1] [(.int 1)]))
 refine qb (fun _ k => XS.ifNo X4.here hx rfl (own_e hby d20 10 rfl) rfl ((if0 _ _).trans (feq (by decide : ¬ ((1 : Int32) = (0 : Int32)))).1) k) ?_
 show qG p e below _ (T4.setTop (mkF m 22 #[vR a0, vR a1, .val .null, vR t_a1, vI c_a1] []))
 refine qb (fun _ k => XS.aloadN X4.here hx rfl (own_e hby d20 11 rfl) rfl rfl k) ?_
 refine qb (fun _ k => XS.iconst X4.here hx rfl (own_e hby d20 12 rfl) k) ?_
 obtain ⟨T5, h5, X5, e5, W5, st5⟩ := putFN X4 hx hZ hown (hwd 58 rfl) Via.refl eq4 P_F_a0_coder P_E_a0 (Or.inr ⟨(hwd 5 rfl), rfl, hnm⟩) (hwd 2 rfl) (ty := .byte) (v' := (.int (nar .byte (0 : Int32)))) (by decide) rfl (fits_nar_byte _) (g := (mkF m 24 #[vR a0, vR a1, .val .null, vR t_a1, vI c_a1] [(.int 0), (.ref a0)])) rfl rfl (own_e hby d20 13 rfl)
 have Fw5 : Fld Z h5 a0 cS "coder" "B" (.int (nar .byte (0 : Int32))) := P_F_a0_coder.same W5
 have K5 : Keep h0 h5 [a0] := (Keep.refl h0 [a0]).wr W5 (Or.inl (List.mem_of_getElem? (i := 0) rfl))
 have Z5 := ql Z0 (Keep.of_wr W5).1
 have N5 := Fr.snoc X5 N4 g_a0
 refine qb st5 ?_
 show qG p e below _ (T5.setTop (mkF m 27 #[vR a0, vR a1, .val .null, vR t_a1, vI c_a1] []))
 refine qb (fun _ k => XS.aloadN X5.here hx rfl (own_e hby d20 14 rfl) rfl rfl k) ?_
 refine qb (fun _ k => XS.aloadN X5.here hx rfl (own_e hby d20 15 rfl) rfl rfl k) ?_
 refine qb (fun _ k => XS.iconst X5.here hx rfl (own_e hby d20 16 rfl) k) ?_
 refine qb (fun _ k => XS.iload X5.here hx rfl (own_e hby d20 17 rfl) rfl k) ?_
 have F6 := (P_E_t_a1.wr W5)
 have F7 := (P_V_t_a1.other W5 (Ne.symm (own_neArr P_E_a0 (hwd 2 rfl) P_V_t_a1)))
 obtain ⟨_, T8, Lc8, X8, hQ8, st8⟩ := own_cS X5 hx hZ hown hml (rmcor l Z A0 hw [] k_t_a1 n_t_a1 fn_t_a1 t_a1 c_a1 h5 n0 Z5 F6 F7 hp_2 hp_3) (hwd 142 rfl) (hwd 143 rfl) (hwd 104 rfl) (hwd 144 rfl) (by decide) pd_142 e5 (g := (mkF m 32 #[vR a0, vR a1, .val .null, vR t_a1, vI c_a1] [(.int c_a1), (.int 0), (.ref t_a1), (.ref a0)])) (rest := [(.ref a0)]) rfl rfl rfl rfl (own_e hby d20 18 rfl) rfl
 obtain ⟨b9, rfl, Nq8, Kq8, hp10, hp11, F12, F13⟩ := hQ8
 have N8 := Fr.app N5 Nq8
 have K8 : Keep h0 T8.heap [a0] := K5.trans Kq8 (all0)
 have Z8 := ql Z5 Kq8.1
 have sz_b9 := ql K5.1 hp11
 refine qb st8 ?_
 show qG p e below _ (T8.setTop (mkF m 35 #[vR a0, vR a1, .val .null, vR t_a1, vI c_a1] [(.ref b9), (.ref a0)]))
 have F14 := ((P_E_a0.wr W5).keep Kq8)
 have F15 := ((P_F_a0_value.other W5 (Or.inr (slot_ne (Or.inr (hwd 4 rfl)) (Or.inr (hwd 5 rfl)) (by decide) (t := (.array .byte)) (t' := .byte) (by decide) (by decide)))).keep Kq8 nin0)
 obtain ⟨T16, h16, X16, e16, W16, st16⟩ := putF X8 hx hZ hown (host := "") (Or.inl (hwd 51 rfl)) Via.refl rfl F15 F14 (Or.inr ⟨(hwd 4 rfl), rfl, hnm⟩) (hwd 2 rfl) (ty := (.array .byte)) (by decide) rfl rfl (g := (mkF m 35 #[vR a0, vR a1, .val .null, vR t_a1, vI c_a1] [(.ref b9), (.ref a0)])) rfl rfl (own_e hby d20 19 rfl)
 have Fw16 : Fld Z h16 a0 cS "value" "[B" (.ref b9) := F15.same W16
 have K16 : Keep h0 h16 [a0] := K8.wr W16 (Or.inl (List.mem_of_getElem? (i := 0) rfl))
 have Z16 := ql Z8 (Keep.of_wr W16).1
 have N16 := Fr.snoc X16 N8 g_a0
 refine qb st16 ?_
 show qG p e below _ (T16.setTop (mkF m 38 #[vR a0, vR a1, .val .null, vR t_a1, vI c_a1] []))
 refine qb (fun _ k => XS.goto X16.here hx rfl (pc0 := 38) (pc' := 97) rfl (own_e hby d20 20 rfl) (by decide) (by decide) k) ?_
 show qG p e below _ (T16.setTop (mkF m 97 #[vR a0, vR a1, .val .null, vR t_a1, vI c_a1] []))
 have F17 := (F14.wr W16)
 have F18 := ((Fw5.keep Kq8 nin0).other W16 (Or.inr (slot_ne (Or.inr (hwd 5 rfl)) (Or.inr (hwd 4 rfl)) (by decide) (t := .byte) (t' := (.array .byte)) (by decide) (by decide))))
 have F19 := (F12.other W16 (qm ((P_E_a0.wr W5)).lt hp11))
 have F20 := (F13.wr W16)
 exact own_ret0 X16 hx hrt (own_e hby d20 37 rfl) hlk e16 ⟨_, rfl, N16, K16, F17, F18, Fw16, hp10, sz_b9, F19, F20⟩ (by decide) (by decide)
theorem pd_120 : parseMethodDescriptor "(Ljava/lang/AbstractStringBuilder;Ljava/lang/Void;)V" = some ⟨[(.object "java/lang/AbstractStringBuilder"), (.object "java/lang/Void")], none⟩ := by decide +kernel
theorem d19 : own_ds jdk_42_method_53_code [(0, .aload_n 0, 1), (1, .aload_n 1, 1), (2, .aconst_null, 1), (3, .invokespecial 489, 3), (6, .return_, 1)] = true := by decide +kernel
theorem ef_sibL (m : MethodId) (a0 a1 : Addr) : entryFrame m #[(.ref a0), (.ref a1)] 2 = mkF m 0 #[vR a0, vR a1] [] := rfl
def QsibL (Z : State) (t_a1 : Addr) (c_a1 : Int32) (k_t_a1 : ClassId) (n_t_a1 : Int32) (fn_t_a1 : Nat → Int32) (f_CS : Int32) (a0 a1 : Addr) (f_a0_coder : Int32) (f_a0_value : Value) (h0 : Heap) (n0 : Nat) (v : Option Value) (h : Heap) (L : List Loc) : Prop := ∃ (b2 : Addr), v = none ∧ Fr n0 L ∧ Keep h0 h [a0] ∧ Exa Z h a0 "java/lang/String" ∧ Fld Z h a0 cS "coder" "B" (.int 0) ∧ Fld Z h a0 cS "value" "[B" (.ref b2) ∧ (n0 ≤ b2) ∧ (h0.size ≤ b2) ∧ qA Z h b2 k_t_a1 .byte n_t_a1 (fun i => .int (fn_t_a1 i)) ∧ Exa Z h b2 "[B"
theorem rmsibL (l : Launch) (Z : State) (A0 : Array Value) (hw : ∀ d ∈ tables_1, d.before A0 Z = true) (ws : List Jvm.Cond) (t_a1 : Addr) (c_a1 : Int32) (k_t_a1 : ClassId) (n_t_a1 : Int32) (fn_t_a1 : Nat → Int32) (f_CS : Int32) (a0 a1 : Addr) (f_a0_coder : Int32) (f_a0_value : Value) (h0 : Heap) (n0 : Nat) (Z0 : n0 ≤ h0.size) (P_E_a0 : Exa Z h0 a0 "java/lang/String") (P_E_a1 : Exa Z h0 a1 "java/lang/StringBuilder") (P_F_a1_coder : Fld Z h0 a1 cA "coder" "B" (.int 0)) (P_F_a1_value : Fld Z h0 a1 cA "value" "[B" (.ref t_a1)) (P_F_a1_count : Fld Z h0 a1 cA "count" "I" (.int c_a1)) (P_V_t_a1 : qA Z h0 t_a1 k_t_a1 .byte n_t_a1 (fun i => .int (fn_t_a1 i))) (P_E_t_a1 : Exa Z h0 t_a1 "[B") (P_S_CS : Sta Z h0 cS "COMPACT_STRINGS" "Z" (.int f_CS)) (hn_CS : ¬ (f_CS = (0 : Int32))) (P_F_a0_coder : Fld Z h0 a0 cS "coder" "B" (.int f_a0_coder)) (P_F_a0_value : Fld Z h0 a0 cS "value" "[B" f_a0_value) (g_a0 : n0 ≤ a0) (hp_2 : c_a1 = n_t_a1) (hp_3 : (n_t_a1).toNatClampNeg ≤ 96) :
  qM l Z (⟨"java/lang/String", "<init>", "(Ljava/lang/StringBuilder;)V"⟩ : MethodName) jdk_42_method_53_code 2 none ws ({ frames := 3, cells := 1, slots := 96, locals := 45 } : Room) #[(.ref a0), (.ref a1)] h0 (QsibL Z t_a1 c_a1 k_t_a1 n_t_a1 fn_t_a1 f_CS a0 a1 f_a0_coder f_a0_value h0 n0) 1 96 := own_enter (plainFor_of_name pn_si4L) (fun m => ef_sibL m a0 a1) fun p e s m below meth c s₁ hx hby hml hlk hown hnm X0 e0 hZ hrt => by
 have hwd := qw hw
 have N0 := Fr.nil n0
 show qG p e below _ (s₁.setTop (mkF m 0 #[vR a0, vR a1] []))
 refine qb (fun _ k => XS.aloadN X0.here hx rfl (own_e hby d19 0 rfl) rfl rfl k) ?_
 refine qb (fun _ k => XS.aloadN X0.here hx rfl (own_e hby d19 1 rfl) rfl rfl k) ?_
 refine qb (fun _ k => XS.aconstNull X0.here hx rfl (own_e hby d19 2 rfl) k) ?_
 obtain ⟨_, T1, Lc1, X1, hQ1, st1⟩ := own_cI X0 hx hZ hown hml (rmsisL l Z A0 hw [] t_a1 c_a1 k_t_a1 n_t_a1 fn_t_a1 f_CS a0 a1 f_a0_coder f_a0_value h0 n0 Z0 P_E_a0 P_E_a1 P_F_a1_coder P_F_a1_value P_F_a1_count P_V_t_a1 P_E_t_a1 P_S_CS hn_CS P_F_a0_coder g_a0 hp_2 hp_3 P_F_a0_value) (hwd 120 rfl) (hwd 121 rfl) (hwd 1 rfl) (hwd 122 rfl) (by decide) pd_120 e0 rfl (g := (mkF m 3 #[vR a0, vR a1] [.null, (.ref a1), (.ref a0)])) (rest := []) rfl rfl rfl rfl (own_e hby d19 3 rfl) rfl
 obtain ⟨b2, rfl, Nq1, Kq1, F3, F4, F5, hp6, hp7, F8, F9⟩ := hQ1
 have N1 := Fr.app N0 Nq1
 have K1 : Keep h0 T1.heap [a0] := (Keep.refl h0 [a0]).trans Kq1 ((allS (Or.inl (List.mem_of_getElem? (i := 0) rfl)) all0))
 have Z1 := ql Z0 Kq1.1
 have sz_b2 := ql (Keep.refl h0 [a0]).1 hp7
 refine qb st1 ?_
 show qG p e below _ (T1.setTop (mkF m 6 #[vR a0, vR a1] []))
 exact own_ret0 X1 hx hrt (own_e hby d19 4 rfl) hlk rfl ⟨_, rfl, N1, K1, F3, F4, F5, hp6, sz_b2, F8, F9⟩ (by decide) (by decide)
theorem pd_116 : parseMethodDescriptor "(Ljava/lang/StringBuilder;)V" = some ⟨[(.object "java/lang/StringBuilder")], none⟩ := by decide +kernel
theorem d18 : own_ds jdk_67_method_42_code [(0, .new 18, 3), (3, .dup, 1), (4, .aload_n 0, 1), (5, .invokespecial 137, 3), (8, .areturn, 1)] = true := by decide +kernel
theorem ef_tosL (m : MethodId) (a0 : Addr) : entryFrame m #[(.ref a0)] 1 = mkF m 0 #[vR a0] [] := rfl
def QtosL (Z : State) (t_a0 : Addr) (c_a0 : Int32) (k_t_a0 : ClassId) (n_t_a0 : Int32) (fn_t_a0 : Nat → Int32) (f_CS : Int32) (a0 : Addr) (h0 : Heap) (n0 : Nat) (v : Option Value) (h : Heap) (L : List Loc) : Prop := ∃ (b1 b10 : Addr), v = some (.ref b1) ∧ Fr n0 L ∧ Keep h0 h [] ∧ (n0 ≤ b1) ∧ (h0.size ≤ b1) ∧ Exa Z h b1 "java/lang/String" ∧ Fld Z h b1 cS "coder" "B" (.int 0) ∧ Fld Z h b1 cS "value" "[B" (.ref b10) ∧ (n0 ≤ b10) ∧ (h0.size ≤ b10) ∧ qA Z h b10 k_t_a0 .byte n_t_a0 (fun i => .int (fn_t_a0 i)) ∧ Exa Z h b10 "[B" ∧ (b1 ≠ b10)
theorem rmtosL (l : Launch) (Z : State) (A0 : Array Value) (hw : ∀ d ∈ tables_1, d.before A0 Z = true) (ws : List Jvm.Cond) (t_a0 : Addr) (c_a0 : Int32) (k_t_a0 : ClassId) (n_t_a0 : Int32) (fn_t_a0 : Nat → Int32) (f_CS : Int32) (a0 : Addr) (h0 : Heap) (n0 : Nat) (Z0 : n0 ≤ h0.size) (P_E_a0 : Exa Z h0 a0 "java/lang/StringBuilder") (P_F_a0_coder : Fld Z h0 a0 cA "coder" "B" (.int 0)) (P_F_a0_value : Fld Z h0 a0 cA "value" "[B" (.ref t_a0)) (P_F_a0_count : Fld Z h0 a0 cA "count" "I" (.int c_a0)) (P_V_t_a0 : qA Z h0 t_a0 k_t_a0 .byte n_t_a0 (fun i => .int (fn_t_a0 i))) (P_E_t_a0 : Exa Z h0 t_a0 "[B") (P_S_CS : Sta Z h0 cS "COMPACT_STRINGS" "Z" (.int f_CS)) (hn_CS : ¬ (f_CS = (0 : Int32))) (hp_1 : c_a0 = n_t_a0) (hp_2 : (n_t_a0).toNatClampNeg ≤ 96) :
  qM l Z (⟨"java/lang/StringBuilder", "toString", "()Ljava/lang/String;"⟩ : MethodName) jdk_67_method_42_code 1 (some (.object "java/lang/String")) ws ({ frames := 4, cells := 2, slots := 100, locals := 59 } : Room) #[(.ref a0)] h0 (QtosL Z t_a0 c_a0 k_t_a0 n_t_a0 fn_t_a0 f_CS a0 h0 n0) 2 100 := own_enter (plainFor_of_name pn_sbi) (fun m => ef_tosL m a0) fun p e s m below meth c s₁ hx hby hml hlk hown hnm X0 e0 hZ hrt => by
 have hwd := qw hw
 have N0 := Fr.nil n0
 show qG p e below _ (s₁.setTop (mkF m 0 #[vR a0] []))
 obtain ⟨T1, h1, X1, e1, E1, A1, D1, -, st1⟩ := newO X0 hx hZ hown (hwd 115 rfl) (hwd 2 rfl) (hwd 1 rfl) e0 (g := (mkF m 0 #[vR a0] [])) rfl (own_e hby d18 0 rfl) (by decide) (by decide)
 obtain ⟨b1, g1⟩ : ∃ z, z = h0.size := ⟨_, rfl⟩
 have ge_b1 : n0 ≤ b1 := ql Z0 (Nat.le_of_eq g1.symm)
 have sz_b1 := ql (Keep.refl h0 []).1 (Nat.le_of_eq g1.symm)
 have K1 : Keep h0 h1 [] := (Keep.refl h0 []).ext E1
 have Z1 := ql Z0 E1.1
 rw [← g1] at A1 D1 st1
 have F_value_b1 : Fld Z h1 b1 cS "value" "[B" .null := D1 (Or.inr (hwd 4 rfl)) (ty := (.array .byte)) (by decide)
 have F_coder_b1 : Fld Z h1 b1 cS "coder" "B" (.int 0) := D1 (Or.inr (hwd 5 rfl)) (ty := .byte) (by decide)
 refine qb st1 ?_
 show qG p e below _ (T1.setTop (mkF m 3 #[vR a0] [(.ref b1)]))
 refine qb (fun _ k => XS.dup X1.here hx rfl (own_e hby d18 1 rfl) rfl rfl k) ?_
 refine qb (fun _ k => XS.aloadN X1.here hx rfl (own_e hby d18 2 rfl) rfl rfl k) ?_
 have F2 := (P_E_a0.ext E1)
 have F3 := (P_F_a0_coder.ext E1)
 have F4 := (P_F_a0_value.ext E1)
 have F5 := (P_F_a0_count.ext E1)
 have F6 := (P_V_t_a0.ext E1)
 have F7 := (P_E_t_a0.ext E1)
 have F8 := (P_S_CS.ext E1)
 obtain ⟨_, T9, Lc9, X9, hQ9, st9⟩ := own_cI X1 hx hZ hown hml (rmsibL l Z A0 hw [] t_a0 c_a0 k_t_a0 n_t_a0 fn_t_a0 f_CS b1 a0 (0 : Int32) (.null) h1 n0 Z1 A1 F2 F3 F4 F5 F6 F7 F8 hn_CS F_coder_b1 F_value_b1 ge_b1 hp_1 hp_2) (hwd 116 rfl) (hwd 117 rfl) (hwd 1 rfl) (hwd 119 rfl) (by decide) pd_116 e1 rfl (g := (mkF m 5 #[vR a0] [(.ref a0), (.ref b1), (.ref b1)])) (rest := [(.ref b1)]) rfl rfl rfl rfl (own_e hby d18 3 rfl) rfl
 obtain ⟨b10, rfl, Nq9, Kq9, F11, F12, F13, hp14, hp15, F16, F17⟩ := hQ9
 have N9 := Fr.app N0 Nq9
 have K9 : Keep h0 T9.heap [] := K1.trans Kq9 ((allS (Or.inr sz_b1) all0))
 have Z9 := ql Z1 Kq9.1
 have sz_b10 := ql K1.1 hp15
 refine qb st9 ?_
 show qG p e below _ (T9.setTop (mkF m 8 #[vR a0] [(.ref b1)]))
 exact own_retR X9 hx hrt (by decide) rfl (own_e hby d18 4 rfl) hlk rfl ⟨_, _, rfl, N9, K9, ge_b1, sz_b1, F11, F12, F13, hp14, sz_b10, F16, F17, (qn A1.lt hp15)⟩ (by decide) (by decide)
theorem ef_sisU (m : MethodId) (a0 a1 : Addr) : entryFrame m #[(.ref a0), (.ref a1), .null] 5 = mkF m 0 #[vR a0, vR a1, .val .null, .unset, .unset] [] := rfl
def QsisU (Z : State) (t_a1 : Addr) (c_a1 : Int32) (k_t_a1 : ClassId) (n_t_a1 : Int32) (fn_t_a1 : Nat → Int32) (f_CS : Int32) (a0 a1 : Addr) (f_a0_coder : Int32) (f_a0_value : Value) (h0 : Heap) (n0 : Nat) (v : Option Value) (h : Heap) (L : List Loc) : Prop := ∃ (b11 : Addr), v = none ∧ Fr n0 L ∧ Keep h0 h [a0] ∧ Exa Z h a0 "java/lang/String" ∧ Fld Z h a0 cS "coder" "B" (.int (nar .byte (1 : Int32))) ∧ Fld Z h a0 cS "value" "[B" (.ref b11) ∧ (n0 ≤ b11) ∧ (h0.size ≤ b11) ∧ qA Z h b11 k_t_a1 .byte n_t_a1 (fun i => .int (fn_t_a1 i)) ∧ Exa Z h b11 "[B"
theorem rmsisU (l : Launch) (Z : State) (A0 : Array Value) (hw : ∀ d ∈ tables_1, d.before A0 Z = true) (ws : List Jvm.Cond) (t_a1 : Addr) (c_a1 : Int32) (k_t_a1 : ClassId) (n_t_a1 : Int32) (fn_t_a1 : Nat → Int32) (f_CS : Int32) (a0 a1 : Addr) (f_a0_coder : Int32) (f_a0_value : Value) (h0 : Heap) (n0 : Nat) (Z0 : n0 ≤ h0.size) (P_E_a0 : Exa Z h0 a0 "java/lang/String") (P_E_a1 : Exa Z h0 a1 "java/lang/StringBuilder") (P_F_a1_coder : Fld Z h0 a1 cA "coder" "B" (.int 1)) (P_F_a1_value : Fld Z h0 a1 cA "value" "[B" (.ref t_a1)) (P_F_a1_count : Fld Z h0 a1 cA "count" "I" (.int c_a1)) (P_V_t_a1 : qA Z h0 t_a1 k_t_a1 .byte n_t_a1 (fun i => .int (fn_t_a1 i))) (P_E_t_a1 : Exa Z h0 t_a1 "[B") (P_F_a1_maybeLatin1 : Fld Z h0 a1 cA "maybeLatin1" "Z" (.int 0)) (P_S_CS : Sta Z h0 cS "COMPACT_STRINGS" "Z" (.int f_CS)) (hn_CS : ¬ (f_CS = (0 : Int32))) (P_F_a0_coder : Fld Z h0 a0 cS "coder" "B" (.int f_a0_coder)) (g_a0 : n0 ≤ a0) (hp_2 : (c_a1 <<< ((1 : Int32) &&& 31)) = n_t_a1) (hp_3 : (n_t_a1).toNatClampNeg ≤ 96) (P_F_a0_value : Fld Z h0 a0 cS "value" "[B" f_a0_value) :
  qM l Z (⟨"java/lang/String", "<init>", "(Ljava/lang/AbstractStringBuilder;Ljava/lang/Void;)V"⟩ : MethodName) jdk_42_method_150_code 5 none ws ({ frames := 2, cells := 1, slots := 96, locals := 29 } : Room) #[(.ref a0), (.ref a1), .null] h0 (QsisU Z t_a1 c_a1 k_t_a1 n_t_a1 fn_t_a1 f_CS a0 a1 f_a0_coder f_a0_value h0 n0) 1 96 := own_enter (plainFor_of_name pn_si4L) (fun m => ef_sisU m a0 a1) fun p e s m below meth c s₁ hx hby hml hlk hown hnm X0 e0 hZ hrt => by
 have hwd := qw hw
 have N0 := Fr.nil n0
 show qG p e below _ (s₁.setTop (mkF m 0 #[vR a0, vR a1, .val .null, .unset, .unset] []))
 refine qb (fun _ k => XS.aloadN X0.here hx rfl (own_e hby d20 0 rfl) rfl rfl k) ?_
 obtain ⟨T1, X1, e1, st1⟩ := initO X0 hx hZ hown (hwd 123 rfl) (hwd 29 rfl) (hwd 30 rfl) e0 (g := (mkF m 1 #[vR a0, vR a1, .val .null, .unset, .unset] [(.ref a0)])) rfl (by rw [hml]; rfl) rfl (own_e hby d20 1 rfl) (by decide) (W := 0) (by show 2 * 0 + _ ≤ _; exact Nat.le_of_eq rfl) (by decide)
 refine qb st1 ?_
 show qG p e below _ (T1.setTop (mkF m 4 #[vR a0, vR a1, .val .null, .unset, .unset] []))
 refine qb (fun _ k => XS.aloadN X1.here hx rfl (own_e hby d20 2 rfl) rfl rfl k) ?_
 obtain ⟨_, T2, Lc2, X2, hQ2, st2⟩ := own_cV X1 hx hZ hown hml (rmgetv l Z A0 hw [] a1 t_a1 h0 n0 Z0 P_F_a1_value) (hwd 124 rfl) (hwd 126 rfl) (hwd 26 rfl) (hwd 128 rfl) (by decide) pd_124 e1 (hwd 125 rfl) (hwd 127 rfl) P_E_a1 (g := (mkF m 5 #[vR a0, vR a1, .val .null, .unset, .unset] [(.ref a1)])) (rest := []) rfl rfl rfl rfl (own_e hby d20 3 rfl) rfl
 obtain ⟨rfl, Nq2, eq2⟩ := hQ2
 have N2 := Fr.app N0 Nq2
 refine qb st2 ?_
 show qG p e below _ (T2.setTop (mkF m 8 #[vR a0, vR a1, .val .null, .unset, .unset] [(.ref t_a1)]))
 refine qb (fun _ k => XS.astoreN X2.here hx rfl (own_e hby d20 4 rfl) rfl rfl (l' := #[vR a0, vR a1, .val .null, vR t_a1, .unset]) rfl k) ?_
 show qG p e below _ (T2.setTop (mkF m 9 #[vR a0, vR a1, .val .null, vR t_a1, .unset] []))
 refine qb (fun _ k => XS.aloadN X2.here hx rfl (own_e hby d20 5 rfl) rfl rfl k) ?_
 obtain ⟨cq3, kq3, qq3a, qq3b, qq3c⟩ := isOf hZ eq2 P_E_a1
 obtain ⟨_, _, ⟨T3, L3, k3, n3⟩, -, X3, ⟨Lc3, hQ3, l3, y3, z3⟩, st3⟩ := X2.virtualBack hx (y := (⟨"java/lang/AbstractStringBuilder", "length", "()I"⟩ : MethodName)) (z := (⟨"java/lang/StringBuilder", "length", "()I"⟩ : MethodName)) hown (mvT hZ (hwd 129 rfl)) (mvT hZ (hwd 130 rfl)) (own_notFace (args := #[]) (mvT hZ (hwd 64 rfl)) rfl) (mvT hZ (hwd 132 rfl)) (mvT hZ (hwd 133 rfl)) (by decide) (backOf (W := 0) (rmblen l Z A0 hw [] a1 c_a1 h0 n0 Z0 P_E_a1 P_F_a1_count) hZ (hwd 134 rfl) (hwd 18 rfl) (by decide) (by decide)) qq3a qq3c (g := (mkF m 10 #[vR a0, vR a1, .val .null, vR t_a1, .unset] [(.ref a1)])) rfl (by rw [hml]; rfl) (Steps.refl _) (argsL := []) (rest := []) (lenOf pd_46 rfl) rfl (by show 2 * 0 + _ ≤ _; exact Nat.le_of_eq rfl) (own_e hby d20 6 rfl) (fun _ _ => ⟨rfl, eq2, (by decide : 0 + 0 ≤ _), (by decide : 0 + 0 ≤ _)⟩)
 dsimp only [Pt.U, Pt.locs, Pt.cells, Pt.slots] at X3 l3 y3 z3 st3 hQ3
 subst l3 y3 z3
 obtain ⟨rfl, Nq3, eq3⟩ := hQ3
 have N3 := Fr.app N2 Nq3
 refine qb (fun _ k => st3.trans k) ?_
 show qG p e below _ (T3.setTop (mkF m 13 #[vR a0, vR a1, .val .null, vR t_a1, .unset] [(.int c_a1)]))
 refine qb (fun _ k => XS.istore X3.here hx rfl (own_e hby d20 7 rfl) rfl (l' := #[vR a0, vR a1, .val .null, vR t_a1, vI c_a1]) rfl k) ?_
 show qG p e below _ (T3.setTop (mkF m 15 #[vR a0, vR a1, .val .null, vR t_a1, vI c_a1] []))
 refine qb (fun _ k => XS.aloadN X3.here hx rfl (own_e hby d20 8 rfl) rfl rfl k) ?_
 obtain ⟨_, T4, Lc4, X4, hQ4, st4⟩ := own_cV X3 hx hZ hown hml (rmisl1 l Z A0 hw [] f_CS a1 h0 n0 Z0 P_E_a1 P_F_a1_coder P_S_CS hn_CS) (hwd 137 rfl) (hwd 139 rfl) (hwd 26 rfl) (hwd 141 rfl) (by decide) pd_137 eq3 (hwd 138 rfl) (hwd 140 rfl) P_E_a1 (g := (mkF m 16 #[vR a0, vR a1, .val .null, vR t_a1, vI c_a1] [(.ref a1)])) (rest := []) rfl rfl rfl rfl (own_e hby d20 9 rfl) rfl
 obtain ⟨rfl, Nq4, eq4⟩ := hQ4
 have N4 := Fr.app N3 Nq4
 refine qb st4 ?_
 show qG p e below _ (T4.setTop (mkF m 19 #[vR a0, vR a1, .val .null, vR t_a1, vI c_a1] [(.int 0)]))
 refine qb (fun _ k => XS.ifYes X4.here hx rfl (pc0 := 19) (pc' := 41) rfl (own_e hby d20 10 rfl) rfl ((if0 _ _).trans (teq (by decide : (0 : Int32) = (0 : Int32))).1) (by decide) (by decide) k) ?_
 show qG p e below _ (T4.setTop (mkF m 41 #[vR a0, vR a1, .val .null, vR t_a1, vI c_a1] []))
 obtain ⟨T5, X5, e5, st5⟩ := getS2 X4 hx hZ hown (host := "") (Or.inl (hwd 57 rfl)) Via.refl eq4 P_S_CS (g := (mkF m 41 #[vR a0, vR a1, .val .null, vR t_a1, vI c_a1] [])) rfl (own_e hby d20 21 rfl)
 refine qb st5 ?_
 refine qb (fun _ k => XS.ifNo X5.here hx rfl (own_e hby d20 22 rfl) rfl ((if0 _ _).trans (feq hn_CS).1) k) ?_
 show qG p e below _ (T5.setTop (mkF m 47 #[vR a0, vR a1, .val .null, vR t_a1, vI c_a1] []))
 refine qb (fun _ k => XS.aloadN X5.here hx rfl (own_e hby d20 23 rfl) rfl rfl k) ?_
 obtain ⟨T6, X6, e6, st6⟩ := getF X5 hx hZ hown (host := "") (Or.inl (hwd 298 rfl)) Via.refl e5 P_F_a1_maybeLatin1 (g := (mkF m 48 #[vR a0, vR a1, .val .null, vR t_a1, vI c_a1] [(.ref a1)])) rfl rfl (own_e hby d20 24 rfl)
 refine qb st6 ?_
 refine qb (fun _ k => XS.ifYes X6.here hx rfl (pc0 := 51) (pc' := 79) rfl (own_e hby d20 25 rfl) rfl ((if0 _ _).trans (teq (by decide : (0 : Int32) = (0 : Int32))).1) (by decide) (by decide) k) ?_
 show qG p e below _ (T6.setTop (mkF m 79 #[vR a0, vR a1, .val .null, vR t_a1, vI c_a1] []))
 refine qb (fun _ k => XS.aloadN X6.here hx rfl (own_e hby d20 26 rfl) rfl rfl k) ?_
 refine qb (fun _ k => XS.iconst X6.here hx rfl (own_e hby d20 27 rfl) k) ?_
 obtain ⟨T7, h7, X7, e7, W7, st7⟩ := putFN X6 hx hZ hown (hwd 58 rfl) Via.refl e6 P_F_a0_coder P_E_a0 (Or.inr ⟨(hwd 5 rfl), rfl, hnm⟩) (hwd 2 rfl) (ty := .byte) (v' := (.int (nar .byte (1 : Int32)))) (by decide) rfl (fits_nar_byte _) (g := (mkF m 81 #[vR a0, vR a1, .val .null, vR t_a1, vI c_a1] [(.int 1), (.ref a0)])) rfl rfl (own_e hby d20 28 rfl)
 have Fw7 : Fld Z h7 a0 cS "coder" "B" (.int (nar .byte (1 : Int32))) := P_F_a0_coder.same W7
 have K7 : Keep h0 h7 [a0] := (Keep.refl h0 [a0]).wr W7 (Or.inl (List.mem_of_getElem? (i := 0) rfl))
 have Z7 := ql Z0 (Keep.of_wr W7).1
 have N7 := Fr.snoc X7 N4 g_a0
 refine qb st7 ?_
 show qG p e below _ (T7.setTop (mkF m 84 #[vR a0, vR a1, .val .null, vR t_a1, vI c_a1] []))
 refine qb (fun _ k => XS.aloadN X7.here hx rfl (own_e hby d20 29 rfl) rfl rfl k) ?_
 refine qb (fun _ k => XS.aloadN X7.here hx rfl (own_e hby d20 30 rfl) rfl rfl k) ?_
 refine qb (fun _ k => XS.iconst X7.here hx rfl (own_e hby d20 31 rfl) k) ?_
 refine qb (fun _ k => XS.iload X7.here hx rfl (own_e hby d20 32 rfl) rfl k) ?_
 refine qb (fun _ k => XS.iconst X7.here hx rfl (own_e hby d20 33 rfl) k) ?_
 refine qb (fun _ k => XS.ishl X7.here hx rfl (own_e hby d20 34 rfl) rfl k) ?_
 have F8 := (P_E_t_a1.wr W7)
 have F9 := (P_V_t_a1.other W7 (Ne.symm (own_neArr P_E_a0 (hwd 2 rfl) P_V_t_a1)))
 obtain ⟨_, T10, Lc10, X10, hQ10, st10⟩ := own_cS X7 hx hZ hown hml (rmcor l Z A0 hw [] k_t_a1 n_t_a1 fn_t_a1 t_a1 (c_a1 <<< ((1 : Int32) &&& 31)) h7 n0 Z7 F8 F9 hp_2 hp_3) (hwd 142 rfl) (hwd 143 rfl) (hwd 104 rfl) (hwd 144 rfl) (by decide) pd_142 e7 (g := (mkF m 91 #[vR a0, vR a1, .val .null, vR t_a1, vI c_a1] [(.int (c_a1 <<< ((1 : Int32) &&& 31))), (.int 0), (.ref t_a1), (.ref a0)])) (rest := [(.ref a0)]) rfl rfl rfl rfl (own_e hby d20 35 rfl) rfl
 obtain ⟨b11, rfl, Nq10, Kq10, hp12, hp13, F14, F15⟩ := hQ10
 have N10 := Fr.app N7 Nq10
 have K10 : Keep h0 T10.heap [a0] := K7.trans Kq10 (all0)
 have Z10 := ql Z7 Kq10.1
 have sz_b11 := ql K7.1 hp13
 refine qb st10 ?_
 show qG p e below _ (T10.setTop (mkF m 94 #[vR a0, vR a1, .val .null, vR t_a1, vI c_a1] [(.ref b11), (.ref a0)]))
 have F16 := ((P_E_a0.wr W7).keep Kq10)
 have F17 := ((P_F_a0_value.other W7 (Or.inr (slot_ne (Or.inr (hwd 4 rfl)) (Or.inr (hwd 5 rfl)) (by decide) (t := (.array .byte)) (t' := .byte) (by decide) (by decide)))).keep Kq10 nin0)
 obtain ⟨T18, h18, X18, e18, W18, st18⟩ := putF X10 hx hZ hown (host := "") (Or.inl (hwd 51 rfl)) Via.refl rfl F17 F16 (Or.inr ⟨(hwd 4 rfl), rfl, hnm⟩) (hwd 2 rfl) (ty := (.array .byte)) (by decide) rfl rfl (g := (mkF m 94 #[vR a0, vR a1, .val .null, vR t_a1, vI c_a1] [(.ref b11), (.ref a0)])) rfl rfl (own_e hby d20 36 rfl)
 have Fw18 : Fld Z h18 a0 cS "value" "[B" (.ref b11) := F17.same W18
 have K18 : Keep h0 h18 [a0] := K10.wr W18 (Or.inl (List.mem_of_getElem? (i := 0) rfl))
 have Z18 := ql Z10 (Keep.of_wr W18).1
 have N18 := Fr.snoc X18 N10 g_a0
 refine qb st18 ?_
 show qG p e below _ (T18.setTop (mkF m 97 #[vR a0, vR a1, .val .null, vR t_a1, vI c_a1] []))
 have F19 := (F16.wr W18)
 have F20 := ((Fw7.keep Kq10 nin0).other W18 (Or.inr (slot_ne (Or.inr (hwd 5 rfl)) (Or.inr (hwd 4 rfl)) (by decide) (t := .byte) (t' := (.array .byte)) (by decide) (by decide))))
 have F21 := (F14.other W18 (qm ((P_E_a0.wr W7)).lt hp13))
 have F22 := (F15.wr W18)
 exact own_ret0 X18 hx hrt (own_e hby d20 37 rfl) hlk e18 ⟨_, rfl, N18, K18, F19, F20, Fw18, hp12, sz_b11, F21, F22⟩ (by decide) (by decide)
theorem ef_sibU (m : MethodId) (a0 a1 : Addr) : entryFrame m #[(.ref a0), (.ref a1)] 2 = mkF m 0 #[vR a0, vR a1] [] := rfl
def QsibU (Z : State) (t_a1 : Addr) (c_a1 : Int32) (k_t_a1 : ClassId) (n_t_a1 : Int32) (fn_t_a1 : Nat → Int32) (f_CS : Int32) (a0 a1 : Addr) (f_a0_coder : Int32) (f_a0_value : Value) (h0 : Heap) (n0 : Nat) (v : Option Value) (h : Heap) (L : List Loc) : Prop := ∃ (b2 : Addr), v = none ∧ Fr n0 L ∧ Keep h0 h [a0] ∧ Exa Z h a0 "java/lang/String" ∧ Fld Z h a0 cS "coder" "B" (.int 1) ∧ Fld Z h a0 cS "value" "[B" (.ref b2) ∧ (n0 ≤ b2) ∧ (h0.size ≤ b2) ∧ qA Z h b2 k_t_a1 .byte n_t_a1 (fun i => .int (fn_t_a1 i)) ∧ Exa Z h b2 "[B"
theorem rmsibU (l : Launch) (Z : State) (A0 : Array Value) (hw : ∀ d ∈ tables_1, d.before A0 Z = true) (ws : List Jvm.Cond) (t_a1 : Addr) (c_a1 : Int32) (k_t_a1 : ClassId) (n_t_a1 : Int32) (fn_t_a1 : Nat → Int32) (f_CS : Int32) (a0 a1 : Addr) (f_a0_coder : Int32) (f_a0_value : Value) (h0 : Heap) (n0 : Nat) (Z0 : n0 ≤ h0.size) (P_E_a0 : Exa Z h0 a0 "java/lang/String") (P_E_a1 : Exa Z h0 a1 "java/lang/StringBuilder") (P_F_a1_coder : Fld Z h0 a1 cA "coder" "B" (.int 1)) (P_F_a1_value : Fld Z h0 a1 cA "value" "[B" (.ref t_a1)) (P_F_a1_count : Fld Z h0 a1 cA "count" "I" (.int c_a1)) (P_V_t_a1 : qA Z h0 t_a1 k_t_a1 .byte n_t_a1 (fun i => .int (fn_t_a1 i))) (P_E_t_a1 : Exa Z h0 t_a1 "[B") (P_F_a1_maybeLatin1 : Fld Z h0 a1 cA "maybeLatin1" "Z" (.int 0)) (P_S_CS : Sta Z h0 cS "COMPACT_STRINGS" "Z" (.int f_CS)) (hn_CS : ¬ (f_CS = (0 : Int32))) (P_F_a0_coder : Fld Z h0 a0 cS "coder" "B" (.int f_a0_coder)) (P_F_a0_value : Fld Z h0 a0 cS "value" "[B" f_a0_value) (g_a0 : n0 ≤ a0) (hp_2 : (c_a1 <<< ((1 : Int32) &&& 31)) = n_t_a1) (hp_3 : (n_t_a1).toNatClampNeg ≤ 96) :
  qM l Z (⟨"java/lang/String", "<init>", "(Ljava/lang/StringBuilder;)V"⟩ : MethodName) jdk_42_method_53_code 2 none ws ({ frames := 3, cells := 1, slots := 96, locals := 45 } : Room) #[(.ref a0), (.ref a1)] h0 (QsibU Z t_a1 c_a1 k_t_a1 n_t_a1 fn_t_a1 f_CS a0 a1 f_a0_coder f_a0_value h0 n0) 1 96 := own_enter (plainFor_of_name pn_si4L) (fun m => ef_sibU m a0 a1) fun p e s m below meth c s₁ hx hby hml hlk hown hnm X0 e0 hZ hrt => by
 have hwd := qw hw
 have N0 := Fr.nil n0
 show qG p e below _ (s₁.setTop (mkF m 0 #[vR a0, vR a1] []))
 refine qb (fun _ k => XS.aloadN X0.here hx rfl (own_e hby d19 0 rfl) rfl rfl k) ?_
 refine qb (fun _ k => XS.aloadN X0.here hx rfl (own_e hby d19 1 rfl) rfl rfl k) ?_
 refine qb (fun _ k => XS.aconstNull X0.here hx rfl (own_e hby d19 2 rfl) k) ?_
 obtain ⟨_, T1, Lc1, X1, hQ1, st1⟩ := own_cI X0 hx hZ hown hml (rmsisU l Z A0 hw [] t_a1 c_a1 k_t_a1 n_t_a1 fn_t_a1 f_CS a0 a1 f_a0_coder f_a0_value h0 n0 Z0 P_E_a0 P_E_a1 P_F_a1_coder P_F_a1_value P_F_a1_count P_V_t_a1 P_E_t_a1 P_F_a1_maybeLatin1 P_S_CS hn_CS P_F_a0_coder g_a0 hp_2 hp_3 P_F_a0_value) (hwd 120 rfl) (hwd 121 rfl) (hwd 1 rfl) (hwd 122 rfl) (by decide) pd_120 e0 rfl (g := (mkF m 3 #[vR a0, vR a1] [.null, (.ref a1), (.ref a0)])) (rest := []) rfl rfl rfl rfl (own_e hby d19 3 rfl) rfl
 obtain ⟨b2, rfl, Nq1, Kq1, F3, F4, F5, hp6, hp7, F8, F9⟩ := hQ1
 have N1 := Fr.app N0 Nq1
 have K1 : Keep h0 T1.heap [a0] := (Keep.refl h0 [a0]).trans Kq1 ((allS (Or.inl (List.mem_of_getElem? (i := 0) rfl)) all0))
 have Z1 := ql Z0 Kq1.1
 have sz_b2 := ql (Keep.refl h0 [a0]).1 hp7
 refine qb st1 ?_
 show qG p e below _ (T1.setTop (mkF m 6 #[vR a0, vR a1] []))
 exact own_ret0 X1 hx hrt (own_e hby d19 4 rfl) hlk rfl ⟨_, rfl, N1, K1, F3, F4, F5, hp6, sz_b2, F8, F9⟩ (by decide) (by decide)
theorem ef_tosU (m : MethodId) (a0 : Addr) : entryFrame m #[(.ref a0)] 1 = mkF m 0 #[vR a0] [] := rfl
def QtosU (Z : State) (t_a0 : Addr) (c_a0 : Int32) (k_t_a0 : ClassId) (n_t_a0 : Int32) (fn_t_a0 : Nat → Int32) (f_CS : Int32) (a0 : Addr) (h0 : Heap) (n0 : Nat) (v : Option Value) (h : Heap) (L : List Loc) : Prop := ∃ (b1 b11 : Addr), v = some (.ref b1) ∧ Fr n0 L ∧ Keep h0 h [] ∧ (n0 ≤ b1) ∧ (h0.size ≤ b1) ∧ Exa Z h b1 "java/lang/String" ∧ Fld Z h b1 cS "coder" "B" (.int 1) ∧ Fld Z h b1 cS "value" "[B" (.ref b11) ∧ (n0 ≤ b11) ∧ (h0.size ≤ b11) ∧ qA Z h b11 k_t_a0 .byte n_t_a0 (fun i => .int (fn_t_a0 i)) ∧ Exa Z h b11 "[B" ∧ (b1 ≠ b11)
theorem rmtosU (l : Launch) (Z : State) (A0 : Array Value) (hw : ∀ d ∈ tables_1, d.before A0 Z = true) (ws : List Jvm.Cond) (t_a0 : Addr) (c_a0 : Int32) (k_t_a0 : ClassId) (n_t_a0 : Int32) (fn_t_a0 : Nat → Int32) (f_CS : Int32) (a0 : Addr) (h0 : Heap) (n0 : Nat) (Z0 : n0 ≤ h0.size) (P_E_a0 : Exa Z h0 a0 "java/lang/StringBuilder") (P_F_a0_coder : Fld Z h0 a0 cA "coder" "B" (.int 1)) (P_F_a0_value : Fld Z h0 a0 cA "value" "[B" (.ref t_a0)) (P_F_a0_count : Fld Z h0 a0 cA "count" "I" (.int c_a0)) (P_V_t_a0 : qA Z h0 t_a0 k_t_a0 .byte n_t_a0 (fun i => .int (fn_t_a0 i))) (P_E_t_a0 : Exa Z h0 t_a0 "[B") (P_F_a0_maybeLatin1 : Fld Z h0 a0 cA "maybeLatin1" "Z" (.int 0)) (P_S_CS : Sta Z h0 cS "COMPACT_STRINGS" "Z" (.int f_CS)) (hn_CS : ¬ (f_CS = (0 : Int32))) (hp_1 : (c_a0 <<< ((1 : Int32) &&& 31)) = n_t_a0) (hp_2 : (n_t_a0).toNatClampNeg ≤ 96) :
  qM l Z (⟨"java/lang/StringBuilder", "toString", "()Ljava/lang/String;"⟩ : MethodName) jdk_67_method_42_code 1 (some (.object "java/lang/String")) ws ({ frames := 4, cells := 2, slots := 100, locals := 59 } : Room) #[(.ref a0)] h0 (QtosU Z t_a0 c_a0 k_t_a0 n_t_a0 fn_t_a0 f_CS a0 h0 n0) 2 100 := own_enter (plainFor_of_name pn_sbi) (fun m => ef_tosU m a0) fun p e s m below meth c s₁ hx hby hml hlk hown hnm X0 e0 hZ hrt => by
 have hwd := qw hw
 have N0 := Fr.nil n0
 show qG p e below _ (s₁.setTop (mkF m 0 #[vR a0] []))
 obtain ⟨T1, h1, X1, e1, E1, A1, D1, -, st1⟩ := newO X0 hx hZ hown (hwd 115 rfl) (hwd 2 rfl) (hwd 1 rfl) e0 (g := (mkF m 0 #[vR a0] [])) rfl (own_e hby d18 0 rfl) (by decide) (by decide)
 obtain ⟨b1, g1⟩ : ∃ z, z = h0.size := ⟨_, rfl⟩
 have ge_b1 : n0 ≤ b1 := ql Z0 (Nat.le_of_eq g1.symm)
 have sz_b1 := ql (Keep.refl h0 []).1 (Nat.le_of_eq g1.symm)
 have K1 : Keep h0 h1 [] := (Keep.refl h0 []).ext E1
 have Z1 := ql Z0 E1.1
 rw [← g1] at A1 D1 st1
 have F_value_b1 : Fld Z h1 b1 cS "value" "[B" .null := D1 (Or.inr (hwd 4 rfl)) (ty := (.array .byte)) (by decide)
 have F_coder_b1 : Fld Z h1 b1 cS "coder" "B" (.int 0) := D1 (Or.inr (hwd 5 rfl)) (ty := .byte) (by decide)
 refine qb st1 ?_
 show qG p e below _ (T1.setTop (mkF m 3 #[vR a0] [(.ref b1)]))
 refine qb (fun _ k => XS.dup X1.here hx rfl (own_e hby d18 1 rfl) rfl rfl k) ?_
 refine qb (fun _ k => XS.aloadN X1.here hx rfl (own_e hby d18 2 rfl) rfl rfl k) ?_
 have F2 := (P_E_a0.ext E1)
 have F3 := (P_F_a0_coder.ext E1)
 have F4 := (P_F_a0_value.ext E1)
 have F5 := (P_F_a0_count.ext E1)
 have F6 := (P_V_t_a0.ext E1)
 have F7 := (P_E_t_a0.ext E1)
 have F8 := (P_F_a0_maybeLatin1.ext E1)
 have F9 := (P_S_CS.ext E1)
 obtain ⟨_, T10, Lc10, X10, hQ10, st10⟩ := own_cI X1 hx hZ hown hml (rmsibU l Z A0 hw [] t_a0 c_a0 k_t_a0 n_t_a0 fn_t_a0 f_CS b1 a0 (0 : Int32) (.null) h1 n0 Z1 A1 F2 F3 F4 F5 F6 F7 F8 F9 hn_CS F_coder_b1 F_value_b1 ge_b1 hp_1 hp_2) (hwd 116 rfl) (hwd 117 rfl) (hwd 1 rfl) (hwd 119 rfl) (by decide) pd_116 e1 rfl (g := (mkF m 5 #[vR a0] [(.ref a0), (.ref b1), (.ref b1)])) (rest := [(.ref b1)]) rfl rfl rfl rfl (own_e hby d18 3 rfl) rfl
 obtain ⟨b11, rfl, Nq10, Kq10, F12, F13, F14, hp15, hp16, F17, F18⟩ := hQ10
 have N10 := Fr.app N0 Nq10
 have K10 : Keep h0 T10.heap [] := K1.trans Kq10 ((allS (Or.inr sz_b1) all0))
 have Z10 := ql Z1 Kq10.1
 have sz_b11 := ql K1.1 hp16
 refine qb st10 ?_
 show qG p e below _ (T10.setTop (mkF m 8 #[vR a0] [(.ref b1)]))
 exact own_retR X10 hx hrt (by decide) rfl (own_e hby d18 4 rfl) hlk rfl ⟨_, _, rfl, N10, K10, ge_b1, sz_b1, F12, F13, F14, hp15, sz_b11, F17, F18, (qn A1.lt hp16)⟩ (by decide) (by decide)
theorem own_thrIn : ∀ d ∈ own_thrA "com/example/model_check_sql/modelchecksql/model/ModelFormatException", d ∈ tables_1 := by decide +kernel
theorem own_thrW {Z : State} {A0 : Array Value} (hw : ∀ d ∈ tables_1, d.before A0 Z = true) : ∀ d ∈ own_thrA "com/example/model_check_sql/modelchecksql/model/ModelFormatException", d.before A0 Z = true := fun d q => hw d (own_thrIn d q)
theorem d30 : own_ds jdk_78_method_2_code [(0, .aload_n 0, 1), (1, .invokespecial 1, 3), (4, .aload_n 0, 1), (5, .aload_n 0, 1), (6, .putfield 7, 3), (9, .aload_n 0, 1), (10, .getstatic 13, 3), (13, .putfield 17, 3), (16, .aload_n 0, 1), (17, .getstatic 20, 3), (20, .putfield 24, 3), (23, .aload_n 0, 1), (24, .invokevirtual 27, 3), (27, .pop, 1), (28, .aload_n 0, 1), (29, .aload_n 1, 1), (30, .putfield 31, 3), (33, .return_, 1)] = true := by decide +kernel
theorem pn_30 : plainName "java/lang/Throwable" = true := by first | (simp [plainName, overriddenIn]; done) | decide +kernel
theorem ef_30 (m : MethodId) (a0 a1 : Addr) : entryFrame m #[(.ref a0), (.ref a1)] 2 = mkF m 0 #[vR a0, vR a1] [] := rfl
def Q30 (Z : State) (f_US : Addr) (f_SS : Value) (a0 a1 : Addr) (f_a0_cause f_a0_stackTrace : Value) (f_a0_suppressedExceptions f_a0_detailMessage : Value) (f_a0_depth : Int32) (h0 : Heap) (n0 : Nat) (v : Option Value) (h : Heap) (L : List Loc) : Prop := v = none ∧ Fr n0 L ∧ Keep h0 h [a0] ∧ Exa Z h a0 "com/example/model_check_sql/modelchecksql/model/ModelFormatException" ∧ Fld Z h a0 "java/lang/Throwable" "detailMessage" "Ljava/lang/String;" (.ref a1)
theorem rm30 (l : Launch) (Z : State) (A0 : Array Value) (hw : ∀ d ∈ tables_1, d.before A0 Z = true) (ws : List Jvm.Cond) (f_US : Addr) (f_SS : Value) (a0 a1 : Addr) (f_a0_cause f_a0_stackTrace : Value) (f_a0_suppressedExceptions f_a0_detailMessage : Value) (f_a0_depth : Int32) (h0 : Heap) (n0 : Nat) (Z0 : n0 ≤ h0.size) (P_E_a0 : Exa Z h0 a0 "com/example/model_check_sql/modelchecksql/model/ModelFormatException") (P_U_a0 : Unt h0 a0) (P_F_a0_backtrace : Fld Z h0 a0 "java/lang/Throwable" "backtrace" "Ljava/lang/Object;" .null) (P_S_US : Sta Z h0 "java/lang/Throwable" "UNASSIGNED_STACK" "[Ljava/lang/StackTraceElement;" (.ref f_US)) (P_S_SS : Sta Z h0 "java/lang/Throwable" "SUPPRESSED_SENTINEL" "Ljava/util/List;" f_SS) (hr_f_SS : f_SS.isRef = true) (P_T : ThS Z h0) (P_F_a0_cause : Fld Z h0 a0 "java/lang/Throwable" "cause" "Ljava/lang/Throwable;" f_a0_cause) (g_a0 : n0 ≤ a0) (P_F_a0_stackTrace : Fld Z h0 a0 "java/lang/Throwable" "stackTrace" "[Ljava/lang/StackTraceElement;" f_a0_stackTrace) (P_F_a0_suppressedExceptions : Fld Z h0 a0 "java/lang/Throwable" "suppressedExceptions" "Ljava/util/List;" f_a0_suppressedExceptions) (hl0 : l.stackTraces = true) (hr_f_a0_detailMessage : f_a0_detailMessage.isRef = true) (P_F_a0_detailMessage : Fld Z h0 a0 "java/lang/Throwable" "detailMessage" "Ljava/lang/String;" f_a0_detailMessage) (P_F_a0_depth : Fld Z h0 a0 "java/lang/Throwable" "depth" "I" (.int f_a0_depth)) :
    MetFree l (⟨"java/lang/Throwable", "<init>", "(Ljava/lang/String;)V"⟩ : MethodName) (head1 (Jvm.Cond.code (⟨"java/lang/Throwable", "<init>", "(Ljava/lang/String;)V"⟩ : MethodName) jdk_78_method_2_code 2 none :: ws) ({ frames := 3, cells := 1, slots := 2752, locals := 42 } : Room)) (fun a U => a = #[(.ref a0), (.ref a1)] ∧ Z.Warmed39 U.vm ∧ U.heap = h0) (fun _ _ bl s _ => s.vm.MethodsKnown ∧ s.vm.FramesKnown bl) (fun _ U o U' => ∃ v L, o = .returned v ∧ Q30 Z f_US f_SS a0 a1 f_a0_cause f_a0_stackTrace f_a0_suppressedExceptions f_a0_detailMessage f_a0_depth h0 n0 v U'.heap L ∧ FrameEnd U o U' L 1 2752) := by
 refine MetFree.of_bodySF (plainFor_of_name pn_30) hisR ?_
 intro p e s m args below meth c s₁ Bd hml0 hP hK
 obtain ⟨rfl, hZ, hh⟩ := hP
 have hwd := fun i {d : Jvm.Cond} (h : tables_1[i]? = some d) => hw d (List.mem_of_getElem? h)
 have hx := Bd.exec
 have hby := Bd.bytes
 have hml : c.maxLocals = 2 := hml0
 have hlk : meth.locks = false := Bd.notSynchronized
 have hown : s.vm.findClass "java/lang/Throwable" = some m.cls := findClass_of_methodNamed Bd.named
 have hnm := (name_of_methodNamed Bd.named Bd.method).1
 have X0 : Stand p l e ({ frames := 3, cells := 1, slots := 2752, locals := 42 } : Room) s m #[(.ref a0), (.ref a1)] below meth c s₁ [] 0 0 := Stand.of_body Bd
 have e0 : s₁.heap = h0 := by rw [← hh, Bd.state]; rfl
 have N0 := Fr.nil n0
 show qG p e below (own_Fin s 1 2752 (Q30 Z f_US f_SS a0 a1 f_a0_cause f_a0_stackTrace f_a0_suppressedExceptions f_a0_detailMessage f_a0_depth h0 n0)) _
 refine qb (fun t k => castTop (ef_30 m a0 a1) k) ?_
 show qG p e below _ (s₁.setTop (mkF m 0 #[vR a0, vR a1] []))
 refine qb (fun _ k => XS.aloadN X0.here hx rfl (own_e hby d30 0 rfl) rfl rfl k) ?_
 obtain ⟨T1, X1, e1, st1⟩ := initO X0 hx hZ hown (hwd 180 rfl) (hwd 29 rfl) (hwd 30 rfl) e0 (g := (mkF m 1 #[vR a0, vR a1] [(.ref a0)])) rfl (by rw [hml]; rfl) rfl (own_e hby d30 1 rfl) (by decide) (W := 0) (by show 2 * 0 + _ ≤ _; exact Nat.le_of_eq rfl) (by decide)
 refine qb st1 ?_
 show qG p e below _ (T1.setTop (mkF m 4 #[vR a0, vR a1] []))
 refine qb (fun _ k => XS.aloadN X1.here hx rfl (own_e hby d30 2 rfl) rfl rfl k) ?_
 refine qb (fun _ k => XS.aloadN X1.here hx rfl (own_e hby d30 3 rfl) rfl rfl k) ?_
 obtain ⟨T2, h2, X2, e2, W2, st2⟩ := putF X1 hx hZ hown (host := "") (Or.inl (hwd 181 rfl)) Via.refl e1 P_F_a0_cause P_E_a0 (Or.inl (hwd 182 rfl)) (hwd 14 rfl) (ty := (.object "java/lang/Throwable")) (by decide) rfl rfl (g := (mkF m 6 #[vR a0, vR a1] [(.ref a0), (.ref a0)])) rfl rfl (own_e hby d30 4 rfl)
 have Fw2 : Fld Z h2 a0 "java/lang/Throwable" "cause" "Ljava/lang/Throwable;" (.ref a0) := P_F_a0_cause.same W2
 have K2 : Keep h0 h2 [a0] := (Keep.refl h0 [a0]).wr W2 (Or.inl (List.mem_of_getElem? (i := 0) rfl))
 have Z2 := ql Z0 (Keep.of_wr W2).1
 have N2 := Fr.snoc X2 N0 g_a0
 refine qb st2 ?_
 show qG p e below _ (T2.setTop (mkF m 9 #[vR a0, vR a1] []))
 refine qb (fun _ k => XS.aloadN X2.here hx rfl (own_e hby d30 5 rfl) rfl rfl k) ?_
 have F3 := (P_S_US.wr W2)
 obtain ⟨T4, X4, e4, st4⟩ := getS2 X2 hx hZ hown (host := "") (Or.inl (hwd 183 rfl)) Via.refl e2 F3 (g := (mkF m 10 #[vR a0, vR a1] [(.ref a0)])) rfl (own_e hby d30 6 rfl)
 refine qb st4 ?_
 have F5 := (P_E_a0.wr W2)
 have F6 := (P_F_a0_stackTrace.other W2 (Or.inr (slot_ne (Or.inl (hwd 185 rfl)) (Or.inl (hwd 182 rfl)) (by decide) (t := (.array (.object "java/lang/StackTraceElement"))) (t' := (.object "java/lang/Throwable")) (by decide) (by decide))))
 obtain ⟨T7, h7, X7, e7, W7, st7⟩ := putF X4 hx hZ hown (host := "") (Or.inl (hwd 184 rfl)) Via.refl e4 F6 F5 (Or.inl (hwd 185 rfl)) (hwd 14 rfl) (ty := (.array (.object "java/lang/StackTraceElement"))) (by decide) rfl rfl (g := (mkF m 13 #[vR a0, vR a1] [(.ref f_US), (.ref a0)])) rfl rfl (own_e hby d30 7 rfl)
 have Fw7 : Fld Z h7 a0 "java/lang/Throwable" "stackTrace" "[Ljava/lang/StackTraceElement;" (.ref f_US) := F6.same W7
 have K7 : Keep h0 h7 [a0] := K2.wr W7 (Or.inl (List.mem_of_getElem? (i := 0) rfl))
 have Z7 := ql Z2 (Keep.of_wr W7).1
 have N7 := Fr.snoc X7 N2 g_a0
 refine qb st7 ?_
 show qG p e below _ (T7.setTop (mkF m 16 #[vR a0, vR a1] []))
 refine qb (fun _ k => XS.aloadN X7.here hx rfl (own_e hby d30 8 rfl) rfl rfl k) ?_
 have F8 := ((P_S_SS.wr W2).wr W7)
 obtain ⟨T9, X9, e9, st9⟩ := getS2 X7 hx hZ hown (host := "") (Or.inl (hwd 186 rfl)) Via.refl e7 F8 (g := (mkF m 17 #[vR a0, vR a1] [(.ref a0)])) rfl (own_e hby d30 9 rfl)
 refine qb st9 ?_
 have F10 := (F5.wr W7)
 have F11 := ((P_F_a0_suppressedExceptions.other W2 (Or.inr (slot_ne (Or.inl (hwd 188 rfl)) (Or.inl (hwd 182 rfl)) (by decide) (t := (.object "java/util/List")) (t' := (.object "java/lang/Throwable")) (by decide) (by decide)))).other W7 (Or.inr (slot_ne (Or.inl (hwd 188 rfl)) (Or.inl (hwd 185 rfl)) (by decide) (t := (.object "java/util/List")) (t' := (.array (.object "java/lang/StackTraceElement"))) (by decide) (by decide))))
 obtain ⟨T12, h12, X12, e12, W12, st12⟩ := putF X9 hx hZ hown (host := "") (Or.inl (hwd 187 rfl)) Via.refl e9 F11 F10 (Or.inl (hwd 188 rfl)) (hwd 14 rfl) (ty := (.object "java/util/List")) (by decide) rfl (own_fitO hr_f_SS) (g := (mkF m 20 #[vR a0, vR a1] [f_SS, (.ref a0)])) rfl rfl (own_e hby d30 10 rfl)
 have Fw12 : Fld Z h12 a0 "java/lang/Throwable" "suppressedExceptions" "Ljava/util/List;" f_SS := F11.same W12
 have K12 : Keep h0 h12 [a0] := K7.wr W12 (Or.inl (List.mem_of_getElem? (i := 0) rfl))
 have Z12 := ql Z7 (Keep.of_wr W12).1
 have N12 := Fr.snoc X12 N7 g_a0
 refine qb st12 ?_
 show qG p e below _ (T12.setTop (mkF m 23 #[vR a0, vR a1] []))
 refine qb (fun _ k => XS.aloadN X12.here hx rfl (own_e hby d30 11 rfl) rfl rfl k) ?_
 have F13 := (F10.wr W12)
 have F14 := (((P_U_a0.wr W2).wr W7).wr W12)
 have F15 := (((P_F_a0_backtrace.other W2 (Or.inr (slot_ne (Or.inl (hwd 213 rfl)) (Or.inl (hwd 182 rfl)) (by decide) (t := (.object "java/lang/Object")) (t' := (.object "java/lang/Throwable")) (by decide) (by decide)))).other W7 (Or.inr (slot_ne (Or.inl (hwd 213 rfl)) (Or.inl (hwd 185 rfl)) (by decide) (t := (.object "java/lang/Object")) (t' := (.array (.object "java/lang/StackTraceElement"))) (by decide) (by decide)))).other W12 (Or.inr (slot_ne (Or.inl (hwd 213 rfl)) (Or.inl (hwd 188 rfl)) (by decide) (t := (.object "java/lang/Object")) (t' := (.object "java/util/List")) (by decide) (by decide))))
 have F16 := (Fw7.other W12 (Or.inr (slot_ne (Or.inl (hwd 185 rfl)) (Or.inl (hwd 188 rfl)) (by decide) (t := (.array (.object "java/lang/StackTraceElement"))) (t' := (.object "java/util/List")) (by decide) (by decide))))
 have F17 := (((P_T.wr W2).wr W7).wr W12)
 have F18 := ((F3.wr W7).wr W12)
 have F19 := (((P_F_a0_detailMessage.other W2 (Or.inr (slot_ne (Or.inl (hwd 212 rfl)) (Or.inl (hwd 182 rfl)) (by decide) (t := (.object "java/lang/String")) (t' := (.object "java/lang/Throwable")) (by decide) (by decide)))).other W7 (Or.inr (slot_ne (Or.inl (hwd 212 rfl)) (Or.inl (hwd 185 rfl)) (by decide) (t := (.object "java/lang/String")) (t' := (.array (.object "java/lang/StackTraceElement"))) (by decide) (by decide)))).other W12 (Or.inr (slot_ne (Or.inl (hwd 212 rfl)) (Or.inl (hwd 188 rfl)) (by decide) (t := (.object "java/lang/String")) (t' := (.object "java/util/List")) (by decide) (by decide))))
 obtain ⟨T20, h20, X20, e20, Kp20, A20, U20, Th20, FM20, st20⟩ := own_fillL X12 hx hl0 hZ hown (rc := "com/example/model_check_sql/modelchecksql/model/ModelFormatException") (own_thrW hw) (hwd 14 rfl) (by rw [hh]; exact P_T) F17 hK.1 hK.2 e12 F13 F14 F15 F16 F18 (g := (mkF m 24 #[vR a0, vR a1] [(.ref a0)])) rfl (by rw [hml]; rfl) (rest := []) rfl (own_e hby d30 12 rfl) (by decide) (by show 2 * 0 + _ + _ ≤ _; exact Nat.le_of_ble_eq_true rfl) (by decide) (by decide)
 have Kq20 := keep_of_kp Kp20
 have K20 : Keep h0 h20 [a0] := K12.trans Kq20 ((allS (Or.inl (List.mem_of_getElem? (i := 0) rfl)) all0))
 have Z20 := ql Z12 Kq20.1
 have N20 := Fr.six (Z := Z) N12 g_a0
 have F20 := FM20 _ F19
 refine qb (fun _ k => st20.trans k) ?_
 show qG p e below _ (T20.setTop (mkF m 27 #[vR a0, vR a1] [(.ref a0)]))
 refine qb (fun _ k => XS.pop X20.here hx rfl (own_e hby d30 13 rfl) rfl rfl k) ?_
 refine qb (fun _ k => XS.aloadN X20.here hx rfl (own_e hby d30 14 rfl) rfl rfl k) ?_
 refine qb (fun _ k => XS.aloadN X20.here hx rfl (own_e hby d30 15 rfl) rfl rfl k) ?_
 obtain ⟨T21, h21, X21, e21, W21, st21⟩ := putF X20 hx hZ hown (host := "") (Or.inl (hwd 216 rfl)) Via.refl e20 F20 A20 (Or.inl (hwd 212 rfl)) (hwd 14 rfl) (ty := (.object "java/lang/String")) (by decide) rfl rfl (g := (mkF m 30 #[vR a0, vR a1] [(.ref a1), (.ref a0)])) rfl rfl (own_e hby d30 16 rfl)
 have Fw21 : Fld Z h21 a0 "java/lang/Throwable" "detailMessage" "Ljava/lang/String;" (.ref a1) := F20.same W21
 have K21 : Keep h0 h21 [a0] := K20.wr W21 (Or.inl (List.mem_of_getElem? (i := 0) rfl))
 have Z21 := ql Z20 (Keep.of_wr W21).1
 have N21 := Fr.snoc X21 N20 g_a0
 refine qb st21 ?_
 show qG p e below _ (T21.setTop (mkF m 33 #[vR a0, vR a1] []))
 have F22 := (A20.wr W21)
 exact own_ret0 X21 hx Bd.returns (own_e hby d30 17 rfl) hlk e21 ⟨rfl, N21, K21, F22, Fw21⟩ (by decide) (by decide)
theorem d29 : own_ds jdk_59_method_2_code [(0, .aload_n 0, 1), (1, .aload_n 1, 1), (2, .invokespecial 7, 3), (5, .return_, 1)] = true := by decide +kernel
theorem pn_29 : plainName "java/lang/Exception" = true := by first | (simp [plainName, overriddenIn]; done) | decide +kernel
theorem ef_29 (m : MethodId) (a0 a1 : Addr) : entryFrame m #[(.ref a0), (.ref a1)] 2 = mkF m 0 #[vR a0, vR a1] [] := rfl
def Q29 (Z : State) (f_US : Addr) (f_SS : Value) (a0 a1 : Addr) (f_a0_cause f_a0_stackTrace : Value) (f_a0_suppressedExceptions f_a0_detailMessage : Value) (f_a0_depth : Int32) (h0 : Heap) (n0 : Nat) (v : Option Value) (h : Heap) (L : List Loc) : Prop := v = none ∧ Fr n0 L ∧ Keep h0 h [a0] ∧ Exa Z h a0 "com/example/model_check_sql/modelchecksql/model/ModelFormatException" ∧ Fld Z h a0 "java/lang/Throwable" "detailMessage" "Ljava/lang/String;" (.ref a1)
theorem rm29 (l : Launch) (Z : State) (A0 : Array Value) (hw : ∀ d ∈ tables_1, d.before A0 Z = true) (ws : List Jvm.Cond) (f_US : Addr) (f_SS : Value) (a0 a1 : Addr) (f_a0_cause f_a0_stackTrace : Value) (f_a0_suppressedExceptions f_a0_detailMessage : Value) (f_a0_depth : Int32) (h0 : Heap) (n0 : Nat) (Z0 : n0 ≤ h0.size) (P_E_a0 : Exa Z h0 a0 "com/example/model_check_sql/modelchecksql/model/ModelFormatException") (P_U_a0 : Unt h0 a0) (P_F_a0_backtrace : Fld Z h0 a0 "java/lang/Throwable" "backtrace" "Ljava/lang/Object;" .null) (P_S_US : Sta Z h0 "java/lang/Throwable" "UNASSIGNED_STACK" "[Ljava/lang/StackTraceElement;" (.ref f_US)) (P_S_SS : Sta Z h0 "java/lang/Throwable" "SUPPRESSED_SENTINEL" "Ljava/util/List;" f_SS) (hr_f_SS : f_SS.isRef = true) (P_T : ThS Z h0) (P_F_a0_cause : Fld Z h0 a0 "java/lang/Throwable" "cause" "Ljava/lang/Throwable;" f_a0_cause) (P_F_a0_stackTrace : Fld Z h0 a0 "java/lang/Throwable" "stackTrace" "[Ljava/lang/StackTraceElement;" f_a0_stackTrace) (P_F_a0_suppressedExceptions : Fld Z h0 a0 "java/lang/Throwable" "suppressedExceptions" "Ljava/util/List;" f_a0_suppressedExceptions) (hr_f_a0_detailMessage : f_a0_detailMessage.isRef = true) (P_F_a0_detailMessage : Fld Z h0 a0 "java/lang/Throwable" "detailMessage" "Ljava/lang/String;" f_a0_detailMessage) (P_F_a0_depth : Fld Z h0 a0 "java/lang/Throwable" "depth" "I" (.int f_a0_depth)) (g_a0 : n0 ≤ a0) (hl0 : l.stackTraces = true) :
    MetFree l (⟨"java/lang/Exception", "<init>", "(Ljava/lang/String;)V"⟩ : MethodName) (head1 (Jvm.Cond.code (⟨"java/lang/Exception", "<init>", "(Ljava/lang/String;)V"⟩ : MethodName) jdk_59_method_2_code 2 none :: ws) ({ frames := 4, cells := 1, slots := 2752, locals := 55 } : Room)) (fun a U => a = #[(.ref a0), (.ref a1)] ∧ Z.Warmed39 U.vm ∧ U.heap = h0) (fun _ _ bl s _ => s.vm.MethodsKnown ∧ s.vm.FramesKnown bl) (fun _ U o U' => ∃ v L, o = .returned v ∧ Q29 Z f_US f_SS a0 a1 f_a0_cause f_a0_stackTrace f_a0_suppressedExceptions f_a0_detailMessage f_a0_depth h0 n0 v U'.heap L ∧ FrameEnd U o U' L 1 2752) := by
 refine MetFree.of_bodySF (plainFor_of_name pn_29) hisR ?_
 intro p e s m args below meth c s₁ Bd hml0 hP hK
 obtain ⟨rfl, hZ, hh⟩ := hP
 have hwd := fun i {d : Jvm.Cond} (h : tables_1[i]? = some d) => hw d (List.mem_of_getElem? h)
 have hx := Bd.exec
 have hby := Bd.bytes
 have hml : c.maxLocals = 2 := hml0
 have hlk : meth.locks = false := Bd.notSynchronized
 have hown : s.vm.findClass "java/lang/Exception" = some m.cls := findClass_of_methodNamed Bd.named
 have hnm := (name_of_methodNamed Bd.named Bd.method).1
 have X0 : Stand p l e ({ frames := 4, cells := 1, slots := 2752, locals := 55 } : Room) s m #[(.ref a0), (.ref a1)] below meth c s₁ [] 0 0 := Stand.of_body Bd
 have e0 : s₁.heap = h0 := by rw [← hh, Bd.state]; rfl
 have N0 := Fr.nil n0
 show qG p e below (own_Fin s 1 2752 (Q29 Z f_US f_SS a0 a1 f_a0_cause f_a0_stackTrace f_a0_suppressedExceptions f_a0_detailMessage f_a0_depth h0 n0)) _
 refine qb (fun t k => castTop (ef_29 m a0 a1) k) ?_
 show qG p e below _ (s₁.setTop (mkF m 0 #[vR a0, vR a1] []))
 refine qb (fun _ k => XS.aloadN X0.here hx rfl (own_e hby d29 0 rfl) rfl rfl k) ?_
 refine qb (fun _ k => XS.aloadN X0.here hx rfl (own_e hby d29 1 rfl) rfl rfl k) ?_
 obtain ⟨_, _, ⟨T1, L1, k1, n1⟩, -, X1, ⟨Lc1, hQ1, l1, y1, z1⟩, st1⟩ := X0.specialBack hx (y := (⟨"java/lang/Throwable", "<init>", "(Ljava/lang/String;)V"⟩ : MethodName)) rfl hown (mvT hZ (hwd 174 rfl)) (mvT hZ (hwd 175 rfl)) (mvT hZ (hwd 179 rfl)) (by decide) (backOfKL (W := 0) (rm30 l Z A0 hw [] f_US f_SS a0 a1 f_a0_cause f_a0_stackTrace f_a0_suppressedExceptions f_a0_detailMessage f_a0_depth h0 n0 Z0 P_E_a0 P_U_a0 P_F_a0_backtrace P_S_US P_S_SS hr_f_SS P_T P_F_a0_cause g_a0 P_F_a0_stackTrace P_F_a0_suppressedExceptions hl0 hr_f_a0_detailMessage P_F_a0_detailMessage P_F_a0_depth) hZ (hwd 179 rfl) (hwd 178 rfl) (by decide) (by decide) hK.1 hK.2) (g := (mkF m 2 #[vR a0, vR a1] [(.ref a1), (.ref a0)])) rfl (by rw [hml]; rfl) (Steps.refl _) (a := a0) (argsL := [(.ref a1)]) (rest := []) (lenOf pd_71 rfl) rfl (by show 2 * 0 + _ ≤ _; exact Nat.le_of_eq rfl) (own_e hby d29 2 rfl) (fun _ _ => ⟨rfl, e0, (by decide : 0 + 1 ≤ _), (by decide : 0 + 2752 ≤ _)⟩)
 dsimp only [Pt.U, Pt.locs, Pt.cells, Pt.slots] at X1 l1 y1 z1 st1 hQ1
 subst l1 y1 z1
 obtain ⟨rfl, Nq1, Kq1, F2, F3⟩ := hQ1
 have N1 := Fr.app N0 Nq1
 have K1 : Keep h0 T1.heap [a0] := (Keep.refl h0 [a0]).trans Kq1 ((allS (Or.inl (List.mem_of_getElem? (i := 0) rfl)) all0))
 have Z1 := ql Z0 Kq1.1
 refine qb (fun _ k => st1.trans k) ?_
 show qG p e below _ (T1.setTop (mkF m 5 #[vR a0, vR a1] []))
 exact own_ret0 X1 hx Bd.returns (own_e hby d29 3 rfl) hlk rfl ⟨rfl, N1, K1, F2, F3⟩ (by decide) (by decide)
theorem d28 : own_ds jdk_58_method_2_code [(0, .aload_n 0, 1), (1, .aload_n 1, 1), (2, .invokespecial 7, 3), (5, .return_, 1)] = true := by decide +kernel
theorem pn_28 : plainName "java/lang/RuntimeException" = true := by first | (simp [plainName, overriddenIn]; done) | decide +kernel
theorem ef_28 (m : MethodId) (a0 a1 : Addr) : entryFrame m #[(.ref a0), (.ref a1)] 2 = mkF m 0 #[vR a0, vR a1] [] := rfl
def Q28 (Z : State) (f_US : Addr) (f_SS : Value) (a0 a1 : Addr) (f_a0_cause f_a0_stackTrace : Value) (f_a0_suppressedExceptions f_a0_detailMessage : Value) (f_a0_depth : Int32) (h0 : Heap) (n0 : Nat) (v : Option Value) (h : Heap) (L : List Loc) : Prop := v = none ∧ Fr n0 L ∧ Keep h0 h [a0] ∧ Exa Z h a0 "com/example/model_check_sql/modelchecksql/model/ModelFormatException" ∧ Fld Z h a0 "java/lang/Throwable" "detailMessage" "Ljava/lang/String;" (.ref a1)
theorem rm28 (l : Launch) (Z : State) (A0 : Array Value) (hw : ∀ d ∈ tables_1, d.before A0 Z = true) (ws : List Jvm.Cond) (f_US : Addr) (f_SS : Value) (a0 a1 : Addr) (f_a0_cause f_a0_stackTrace : Value) (f_a0_suppressedExceptions f_a0_detailMessage : Value) (f_a0_depth : Int32) (h0 : Heap) (n0 : Nat) (Z0 : n0 ≤ h0.size) (P_E_a0 : Exa Z h0 a0 "com/example/model_check_sql/modelchecksql/model/ModelFormatException") (P_U_a0 : Unt h0 a0) (P_F_a0_backtrace : Fld Z h0 a0 "java/lang/Throwable" "backtrace" "Ljava/lang/Object;" .null) (P_S_US : Sta Z h0 "java/lang/Throwable" "UNASSIGNED_STACK" "[Ljava/lang/StackTraceElement;" (.ref f_US)) (P_S_SS : Sta Z h0 "java/lang/Throwable" "SUPPRESSED_SENTINEL" "Ljava/util/List;" f_SS) (hr_f_SS : f_SS.isRef = true) (P_T : ThS Z h0) (P_F_a0_cause : Fld Z h0 a0 "java/lang/Throwable" "cause" "Ljava/lang/Throwable;" f_a0_cause) (P_F_a0_stackTrace : Fld Z h0 a0 "java/lang/Throwable" "stackTrace" "[Ljava/lang/StackTraceElement;" f_a0_stackTrace) (P_F_a0_suppressedExceptions : Fld Z h0 a0 "java/lang/Throwable" "suppressedExceptions" "Ljava/util/List;" f_a0_suppressedExceptions) (hr_f_a0_detailMessage : f_a0_detailMessage.isRef = true) (P_F_a0_detailMessage : Fld Z h0 a0 "java/lang/Throwable" "detailMessage" "Ljava/lang/String;" f_a0_detailMessage) (P_F_a0_depth : Fld Z h0 a0 "java/lang/Throwable" "depth" "I" (.int f_a0_depth)) (g_a0 : n0 ≤ a0) (hl0 : l.stackTraces = true) :
    MetFree l (⟨"java/lang/RuntimeException", "<init>", "(Ljava/lang/String;)V"⟩ : MethodName) (head1 (Jvm.Cond.code (⟨"java/lang/RuntimeException", "<init>", "(Ljava/lang/String;)V"⟩ : MethodName) jdk_58_method_2_code 2 none :: ws) ({ frames := 5, cells := 1, slots := 2752, locals := 68 } : Room)) (fun a U => a = #[(.ref a0), (.ref a1)] ∧ Z.Warmed39 U.vm ∧ U.heap = h0) (fun _ _ bl s _ => s.vm.MethodsKnown ∧ s.vm.FramesKnown bl) (fun _ U o U' => ∃ v L, o = .returned v ∧ Q28 Z f_US f_SS a0 a1 f_a0_cause f_a0_stackTrace f_a0_suppressedExceptions f_a0_detailMessage f_a0_depth h0 n0 v U'.heap L ∧ FrameEnd U o U' L 1 2752) := by
 refine MetFree.of_bodySF (plainFor_of_name pn_28) hisR ?_
 intro p e s m args below meth c s₁ Bd hml0 hP hK
 obtain ⟨rfl, hZ, hh⟩ := hP
 have hwd := fun i {d : Jvm.Cond} (h : tables_1[i]? = some d) => hw d (List.mem_of_getElem? h)
 have hx := Bd.exec
 have hby := Bd.bytes
 have hml : c.maxLocals = 2 := hml0
 have hlk : meth.locks = false := Bd.notSynchronized
 have hown : s.vm.findClass "java/lang/RuntimeException" = some m.cls := findClass_of_methodNamed Bd.named
 have hnm := (name_of_methodNamed Bd.named Bd.method).1
 have X0 : Stand p l e ({ frames := 5, cells := 1, slots := 2752, locals := 68 } : Room) s m #[(.ref a0), (.ref a1)] below meth c s₁ [] 0 0 := Stand.of_body Bd
 have e0 : s₁.heap = h0 := by rw [← hh, Bd.state]; rfl
 have N0 := Fr.nil n0
 show qG p e below (own_Fin s 1 2752 (Q28 Z f_US f_SS a0 a1 f_a0_cause f_a0_stackTrace f_a0_suppressedExceptions f_a0_detailMessage f_a0_depth h0 n0)) _
 refine qb (fun t k => castTop (ef_28 m a0 a1) k) ?_
 show qG p e below _ (s₁.setTop (mkF m 0 #[vR a0, vR a1] []))
 refine qb (fun _ k => XS.aloadN X0.here hx rfl (own_e hby d28 0 rfl) rfl rfl k) ?_
 refine qb (fun _ k => XS.aloadN X0.here hx rfl (own_e hby d28 1 rfl) rfl rfl k) ?_
 obtain ⟨_, _, ⟨T1, L1, k1, n1⟩, -, X1, ⟨Lc1, hQ1, l1, y1, z1⟩, st1⟩ := X0.specialBack hx (y := (⟨"java/lang/Exception", "<init>", "(Ljava/lang/String;)V"⟩ : MethodName)) rfl hown (mvT hZ (hwd 168 rfl)) (mvT hZ (hwd 169 rfl)) (mvT hZ (hwd 173 rfl)) (by decide) (backOfKL (W := 0) (rm29 l Z A0 hw [] f_US f_SS a0 a1 f_a0_cause f_a0_stackTrace f_a0_suppressedExceptions f_a0_detailMessage f_a0_depth h0 n0 Z0 P_E_a0 P_U_a0 P_F_a0_backtrace P_S_US P_S_SS hr_f_SS P_T P_F_a0_cause P_F_a0_stackTrace P_F_a0_suppressedExceptions hr_f_a0_detailMessage P_F_a0_detailMessage P_F_a0_depth g_a0 hl0) hZ (hwd 173 rfl) (hwd 172 rfl) (by decide) (by decide) hK.1 hK.2) (g := (mkF m 2 #[vR a0, vR a1] [(.ref a1), (.ref a0)])) rfl (by rw [hml]; rfl) (Steps.refl _) (a := a0) (argsL := [(.ref a1)]) (rest := []) (lenOf pd_71 rfl) rfl (by show 2 * 0 + _ ≤ _; exact Nat.le_of_eq rfl) (own_e hby d28 2 rfl) (fun _ _ => ⟨rfl, e0, (by decide : 0 + 1 ≤ _), (by decide : 0 + 2752 ≤ _)⟩)
 dsimp only [Pt.U, Pt.locs, Pt.cells, Pt.slots] at X1 l1 y1 z1 st1 hQ1
 subst l1 y1 z1
 obtain ⟨rfl, Nq1, Kq1, F2, F3⟩ := hQ1
 have N1 := Fr.app N0 Nq1
 have K1 : Keep h0 T1.heap [a0] := (Keep.refl h0 [a0]).trans Kq1 ((allS (Or.inl (List.mem_of_getElem? (i := 0) rfl)) all0))
 have Z1 := ql Z0 Kq1.1
 refine qb (fun _ k => st1.trans k) ?_
 show qG p e below _ (T1.setTop (mkF m 5 #[vR a0, vR a1] []))
 exact own_ret0 X1 hx Bd.returns (own_e hby d28 3 rfl) hlk rfl ⟨rfl, N1, K1, F2, F3⟩ (by decide) (by decide)
theorem d27 : own_ds jdk_57_method_2_code [(0, .aload_n 0, 1), (1, .aload_n 1, 1), (2, .invokespecial 7, 3), (5, .return_, 1)] = true := by decide +kernel
theorem pn_27 : plainName "java/lang/IllegalArgumentException" = true := by first | (simp [plainName, overriddenIn]; done) | decide +kernel
theorem ef_27 (m : MethodId) (a0 a1 : Addr) : entryFrame m #[(.ref a0), (.ref a1)] 2 = mkF m 0 #[vR a0, vR a1] [] := rfl
def Q27 (Z : State) (f_US : Addr) (f_SS : Value) (a0 a1 : Addr) (f_a0_cause f_a0_stackTrace : Value) (f_a0_suppressedExceptions f_a0_detailMessage : Value) (f_a0_depth : Int32) (h0 : Heap) (n0 : Nat) (v : Option Value) (h : Heap) (L : List Loc) : Prop := v = none ∧ Fr n0 L ∧ Keep h0 h [a0] ∧ Exa Z h a0 "com/example/model_check_sql/modelchecksql/model/ModelFormatException" ∧ Fld Z h a0 "java/lang/Throwable" "detailMessage" "Ljava/lang/String;" (.ref a1)
theorem rm27 (l : Launch) (Z : State) (A0 : Array Value) (hw : ∀ d ∈ tables_1, d.before A0 Z = true) (ws : List Jvm.Cond) (f_US : Addr) (f_SS : Value) (a0 a1 : Addr) (f_a0_cause f_a0_stackTrace : Value) (f_a0_suppressedExceptions f_a0_detailMessage : Value) (f_a0_depth : Int32) (h0 : Heap) (n0 : Nat) (Z0 : n0 ≤ h0.size) (P_E_a0 : Exa Z h0 a0 "com/example/model_check_sql/modelchecksql/model/ModelFormatException") (P_U_a0 : Unt h0 a0) (P_F_a0_backtrace : Fld Z h0 a0 "java/lang/Throwable" "backtrace" "Ljava/lang/Object;" .null) (P_S_US : Sta Z h0 "java/lang/Throwable" "UNASSIGNED_STACK" "[Ljava/lang/StackTraceElement;" (.ref f_US)) (P_S_SS : Sta Z h0 "java/lang/Throwable" "SUPPRESSED_SENTINEL" "Ljava/util/List;" f_SS) (hr_f_SS : f_SS.isRef = true) (P_T : ThS Z h0) (P_F_a0_cause : Fld Z h0 a0 "java/lang/Throwable" "cause" "Ljava/lang/Throwable;" f_a0_cause) (P_F_a0_stackTrace : Fld Z h0 a0 "java/lang/Throwable" "stackTrace" "[Ljava/lang/StackTraceElement;" f_a0_stackTrace) (P_F_a0_suppressedExceptions : Fld Z h0 a0 "java/lang/Throwable" "suppressedExceptions" "Ljava/util/List;" f_a0_suppressedExceptions) (hr_f_a0_detailMessage : f_a0_detailMessage.isRef = true) (P_F_a0_detailMessage : Fld Z h0 a0 "java/lang/Throwable" "detailMessage" "Ljava/lang/String;" f_a0_detailMessage) (P_F_a0_depth : Fld Z h0 a0 "java/lang/Throwable" "depth" "I" (.int f_a0_depth)) (g_a0 : n0 ≤ a0) (hl0 : l.stackTraces = true) :
    MetFree l (⟨"java/lang/IllegalArgumentException", "<init>", "(Ljava/lang/String;)V"⟩ : MethodName) (head1 (Jvm.Cond.code (⟨"java/lang/IllegalArgumentException", "<init>", "(Ljava/lang/String;)V"⟩ : MethodName) jdk_57_method_2_code 2 none :: ws) ({ frames := 6, cells := 1, slots := 2752, locals := 81 } : Room)) (fun a U => a = #[(.ref a0), (.ref a1)] ∧ Z.Warmed39 U.vm ∧ U.heap = h0) (fun _ _ bl s _ => s.vm.MethodsKnown ∧ s.vm.FramesKnown bl) (fun _ U o U' => ∃ v L, o = .returned v ∧ Q27 Z f_US f_SS a0 a1 f_a0_cause f_a0_stackTrace f_a0_suppressedExceptions f_a0_detailMessage f_a0_depth h0 n0 v U'.heap L ∧ FrameEnd U o U' L 1 2752) := by
 refine MetFree.of_bodySF (plainFor_of_name pn_27) hisR ?_
 intro p e s m args below meth c s₁ Bd hml0 hP hK
 obtain ⟨rfl, hZ, hh⟩ := hP
 have hwd := fun i {d : Jvm.Cond} (h : tables_1[i]? = some d) => hw d (List.mem_of_getElem? h)
 have hx := Bd.exec
 have hby := Bd.bytes
 have hml : c.maxLocals = 2 := hml0
 have hlk : meth.locks = false := Bd.notSynchronized
 have hown : s.vm.findClass "java/lang/IllegalArgumentException" = some m.cls := findClass_of_methodNamed Bd.named
 have hnm := (name_of_methodNamed Bd.named Bd.method).1
 have X0 : Stand p l e ({ frames := 6, cells := 1, slots := 2752, locals := 81 } : Room) s m #[(.ref a0), (.ref a1)] below meth c s₁ [] 0 0 := Stand.of_body Bd
 have e0 : s₁.heap = h0 := by rw [← hh, Bd.state]; rfl
 have N0 := Fr.nil n0
 show qG p e below (own_Fin s 1 2752 (Q27 Z f_US f_SS a0 a1 f_a0_cause f_a0_stackTrace f_a0_suppressedExceptions f_a0_detailMessage f_a0_depth h0 n0)) _
 refine qb (fun t k => castTop (ef_27 m a0 a1) k) ?_
 show qG p e below _ (s₁.setTop (mkF m 0 #[vR a0, vR a1] []))
 refine qb (fun _ k => XS.aloadN X0.here hx rfl (own_e hby d27 0 rfl) rfl rfl k) ?_
 refine qb (fun _ k => XS.aloadN X0.here hx rfl (own_e hby d27 1 rfl) rfl rfl k) ?_
 obtain ⟨_, _, ⟨T1, L1, k1, n1⟩, -, X1, ⟨Lc1, hQ1, l1, y1, z1⟩, st1⟩ := X0.specialBack hx (y := (⟨"java/lang/RuntimeException", "<init>", "(Ljava/lang/String;)V"⟩ : MethodName)) rfl hown (mvT hZ (hwd 162 rfl)) (mvT hZ (hwd 163 rfl)) (mvT hZ (hwd 167 rfl)) (by decide) (backOfKL (W := 0) (rm28 l Z A0 hw [] f_US f_SS a0 a1 f_a0_cause f_a0_stackTrace f_a0_suppressedExceptions f_a0_detailMessage f_a0_depth h0 n0 Z0 P_E_a0 P_U_a0 P_F_a0_backtrace P_S_US P_S_SS hr_f_SS P_T P_F_a0_cause P_F_a0_stackTrace P_F_a0_suppressedExceptions hr_f_a0_detailMessage P_F_a0_detailMessage P_F_a0_depth g_a0 hl0) hZ (hwd 167 rfl) (hwd 166 rfl) (by decide) (by decide) hK.1 hK.2) (g := (mkF m 2 #[vR a0, vR a1] [(.ref a1), (.ref a0)])) rfl (by rw [hml]; rfl) (Steps.refl _) (a := a0) (argsL := [(.ref a1)]) (rest := []) (lenOf pd_71 rfl) rfl (by show 2 * 0 + _ ≤ _; exact Nat.le_of_eq rfl) (own_e hby d27 2 rfl) (fun _ _ => ⟨rfl, e0, (by decide : 0 + 1 ≤ _), (by decide : 0 + 2752 ≤ _)⟩)
 dsimp only [Pt.U, Pt.locs, Pt.cells, Pt.slots] at X1 l1 y1 z1 st1 hQ1
 subst l1 y1 z1
 obtain ⟨rfl, Nq1, Kq1, F2, F3⟩ := hQ1
 have N1 := Fr.app N0 Nq1
 have K1 : Keep h0 T1.heap [a0] := (Keep.refl h0 [a0]).trans Kq1 ((allS (Or.inl (List.mem_of_getElem? (i := 0) rfl)) all0))
 have Z1 := ql Z0 Kq1.1
 refine qb (fun _ k => st1.trans k) ?_
 show qG p e below _ (T1.setTop (mkF m 5 #[vR a0, vR a1] []))
 exact own_ret0 X1 hx Bd.returns (own_e hby d27 3 rfl) hlk rfl ⟨rfl, N1, K1, F2, F3⟩ (by decide) (by decide)
theorem d26 : own_ds prog_20_method_1_code [(0, .aload_n 0, 1), (1, .aload_n 1, 1), (2, .invokespecial 1, 3), (5, .return_, 1)] = true := by decide +kernel
theorem pn_26 : plainName "com/example/model_check_sql/modelchecksql/model/ModelFormatException" = true := by first | (simp [plainName, overriddenIn]; done) | decide +kernel
theorem ef_26 (m : MethodId) (a0 a1 : Addr) : entryFrame m #[(.ref a0), (.ref a1)] 2 = mkF m 0 #[vR a0, vR a1] [] := rfl
def Q26 (Z : State) (f_US : Addr) (f_SS : Value) (a0 a1 : Addr) (f_a0_cause f_a0_stackTrace : Value) (f_a0_suppressedExceptions f_a0_detailMessage : Value) (f_a0_depth : Int32) (h0 : Heap) (n0 : Nat) (v : Option Value) (h : Heap) (L : List Loc) : Prop := v = none ∧ Fr n0 L ∧ Keep h0 h [a0] ∧ Exa Z h a0 "com/example/model_check_sql/modelchecksql/model/ModelFormatException" ∧ Fld Z h a0 "java/lang/Throwable" "detailMessage" "Ljava/lang/String;" (.ref a1)
theorem rm26 (l : Launch) (Z : State) (A0 : Array Value) (hw : ∀ d ∈ tables_1, d.before A0 Z = true) (ws : List Jvm.Cond) (f_US : Addr) (f_SS : Value) (a0 a1 : Addr) (f_a0_cause f_a0_stackTrace : Value) (f_a0_suppressedExceptions f_a0_detailMessage : Value) (f_a0_depth : Int32) (h0 : Heap) (n0 : Nat) (Z0 : n0 ≤ h0.size) (P_E_a0 : Exa Z h0 a0 "com/example/model_check_sql/modelchecksql/model/ModelFormatException") (P_U_a0 : Unt h0 a0) (P_F_a0_backtrace : Fld Z h0 a0 "java/lang/Throwable" "backtrace" "Ljava/lang/Object;" .null) (P_S_US : Sta Z h0 "java/lang/Throwable" "UNASSIGNED_STACK" "[Ljava/lang/StackTraceElement;" (.ref f_US)) (P_S_SS : Sta Z h0 "java/lang/Throwable" "SUPPRESSED_SENTINEL" "Ljava/util/List;" f_SS) (hr_f_SS : f_SS.isRef = true) (P_T : ThS Z h0) (P_F_a0_cause : Fld Z h0 a0 "java/lang/Throwable" "cause" "Ljava/lang/Throwable;" f_a0_cause) (P_F_a0_stackTrace : Fld Z h0 a0 "java/lang/Throwable" "stackTrace" "[Ljava/lang/StackTraceElement;" f_a0_stackTrace) (P_F_a0_suppressedExceptions : Fld Z h0 a0 "java/lang/Throwable" "suppressedExceptions" "Ljava/util/List;" f_a0_suppressedExceptions) (hr_f_a0_detailMessage : f_a0_detailMessage.isRef = true) (P_F_a0_detailMessage : Fld Z h0 a0 "java/lang/Throwable" "detailMessage" "Ljava/lang/String;" f_a0_detailMessage) (P_F_a0_depth : Fld Z h0 a0 "java/lang/Throwable" "depth" "I" (.int f_a0_depth)) (g_a0 : n0 ≤ a0) (hl0 : l.stackTraces = true) :
    MetFree l (⟨"com/example/model_check_sql/modelchecksql/model/ModelFormatException", "<init>", "(Ljava/lang/String;)V"⟩ : MethodName) (head1 (Jvm.Cond.code (⟨"com/example/model_check_sql/modelchecksql/model/ModelFormatException", "<init>", "(Ljava/lang/String;)V"⟩ : MethodName) prog_20_method_1_code 2 none :: ws) ({ frames := 7, cells := 1, slots := 2752, locals := 94 } : Room)) (fun a U => a = #[(.ref a0), (.ref a1)] ∧ Z.Warmed39 U.vm ∧ U.heap = h0) (fun _ _ bl s _ => s.vm.MethodsKnown ∧ s.vm.FramesKnown bl) (fun _ U o U' => ∃ v L, o = .returned v ∧ Q26 Z f_US f_SS a0 a1 f_a0_cause f_a0_stackTrace f_a0_suppressedExceptions f_a0_detailMessage f_a0_depth h0 n0 v U'.heap L ∧ FrameEnd U o U' L 1 2752) := by
 refine MetFree.of_bodySF (plainFor_of_name pn_26) hisR ?_
 intro p e s m args below meth c s₁ Bd hml0 hP hK
 obtain ⟨rfl, hZ, hh⟩ := hP
 have hwd := fun i {d : Jvm.Cond} (h : tables_1[i]? = some d) => hw d (List.mem_of_getElem? h)
 have hx := Bd.exec
 have hby := Bd.bytes
 have hml : c.maxLocals = 2 := hml0
 have hlk : meth.locks = false := Bd.notSynchronized
 have hown : s.vm.findClass "com/example/model_check_sql/modelchecksql/model/ModelFormatException" = some m.cls := findClass_of_methodNamed Bd.named
 have hnm := (name_of_methodNamed Bd.named Bd.method).1
 have X0 : Stand p l e ({ frames := 7, cells := 1, slots := 2752, locals := 94 } : Room) s m #[(.ref a0), (.ref a1)] below meth c s₁ [] 0 0 := Stand.of_body Bd
 have e0 : s₁.heap = h0 := by rw [← hh, Bd.state]; rfl
 have N0 := Fr.nil n0
 show qG p e below (own_Fin s 1 2752 (Q26 Z f_US f_SS a0 a1 f_a0_cause f_a0_stackTrace f_a0_suppressedExceptions f_a0_detailMessage f_a0_depth h0 n0)) _
 refine qb (fun t k => castTop (ef_26 m a0 a1) k) ?_
 show qG p e below _ (s₁.setTop (mkF m 0 #[vR a0, vR a1] []))
 refine qb (fun _ k => XS.aloadN X0.here hx rfl (own_e hby d26 0 rfl) rfl rfl k) ?_
 refine qb (fun _ k => XS.aloadN X0.here hx rfl (own_e hby d26 1 rfl) rfl rfl k) ?_
 obtain ⟨_, _, ⟨T1, L1, k1, n1⟩, -, X1, ⟨Lc1, hQ1, l1, y1, z1⟩, st1⟩ := X0.specialBack hx (y := (⟨"java/lang/IllegalArgumentException", "<init>", "(Ljava/lang/String;)V"⟩ : MethodName)) rfl hown (mvT hZ (hwd 157 rfl)) (mvT hZ (hwd 158 rfl)) (mvT hZ (hwd 161 rfl)) (by decide) (backOfKL (W := 0) (rm27 l Z A0 hw [] f_US f_SS a0 a1 f_a0_cause f_a0_stackTrace f_a0_suppressedExceptions f_a0_detailMessage f_a0_depth h0 n0 Z0 P_E_a0 P_U_a0 P_F_a0_backtrace P_S_US P_S_SS hr_f_SS P_T P_F_a0_cause P_F_a0_stackTrace P_F_a0_suppressedExceptions hr_f_a0_detailMessage P_F_a0_detailMessage P_F_a0_depth g_a0 hl0) hZ (hwd 161 rfl) (hwd 160 rfl) (by decide) (by decide) hK.1 hK.2) (g := (mkF m 2 #[vR a0, vR a1] [(.ref a1), (.ref a0)])) rfl (by rw [hml]; rfl) (Steps.refl _) (a := a0) (argsL := [(.ref a1)]) (rest := []) (lenOf pd_71 rfl) rfl (by show 2 * 0 + _ ≤ _; exact Nat.le_of_eq rfl) (own_e hby d26 2 rfl) (fun _ _ => ⟨rfl, e0, (by decide : 0 + 1 ≤ _), (by decide : 0 + 2752 ≤ _)⟩)
 dsimp only [Pt.U, Pt.locs, Pt.cells, Pt.slots] at X1 l1 y1 z1 st1 hQ1
 subst l1 y1 z1
 obtain ⟨rfl, Nq1, Kq1, F2, F3⟩ := hQ1
 have N1 := Fr.app N0 Nq1
 have K1 : Keep h0 T1.heap [a0] := (Keep.refl h0 [a0]).trans Kq1 ((allS (Or.inl (List.mem_of_getElem? (i := 0) rfl)) all0))
 have Z1 := ql Z0 Kq1.1
 refine qb (fun _ k => st1.trans k) ?_
 show qG p e below _ (T1.setTop (mkF m 5 #[vR a0, vR a1] []))
 exact own_ret0 X1 hx Bd.returns (own_e hby d26 3 rfl) hlk rfl ⟨rfl, N1, K1, F2, F3⟩ (by decide) (by decide)
theorem pd_36 : parseMethodDescriptor "(Ljava/lang/String;)Ljava/lang/StringBuilder;" = some ⟨[(.object "java/lang/String")], some (.object "java/lang/StringBuilder")⟩ := by decide +kernel
theorem pd_110 : parseMethodDescriptor "()Ljava/lang/String;" = some ⟨[], some (.object "java/lang/String")⟩ := by decide +kernel
theorem d1 : own_ds prog_21_method_5_code [(0, .new 23, 3), (3, .dup, 1), (4, .new 82, 3), (7, .dup, 1), (8, .invokespecial 84, 3), (11, .aload_n 0, 1), (12, .invokevirtual 85, 3), (15, .ldc 89, 2), (17, .invokevirtual 85, 3), (20, .invokevirtual 91, 3), (23, .invokespecial 92, 3), (26, .areturn, 1)] = true := by decide +kernel
theorem pn_noL : plainName "com/example/model_check_sql/modelchecksql/model/ModelReading" = true := by first | (simp [plainName, overriddenIn]; done) | decide +kernel
theorem ef_noL (m : MethodId) (a0 : Addr) : entryFrame m #[(.ref a0)] 1 = mkF m 0 #[vR a0] [] := rfl
def QnoL (Z : State) (t_a0 : Addr) (k_t_a0 : ClassId) (n_t_a0 : Int32) (fn_t_a0 : Nat → Int32) (f_CS : Int32) (f_US : Addr) (f_SS : Value) (a0 : Addr) (h0 : Heap) (n0 : Nat) (v : Option Value) (h : Heap) (L : List Loc) : Prop := ∃ (b1 b50 b51 : Addr) (b38 : ClassId), v = some (.ref b1) ∧ Fr n0 L ∧ Keep h0 h [] ∧ (n0 ≤ b1) ∧ (h0.size ≤ b1) ∧ Exa Z h b1 "com/example/model_check_sql/modelchecksql/model/ModelFormatException" ∧ Fld Z h b1 "java/lang/Throwable" "detailMessage" "Ljava/lang/String;" (.ref b50) ∧ (n0 ≤ b50) ∧ (h0.size ≤ b50) ∧ Exa Z h b50 "java/lang/String" ∧ Fld Z h b50 cS "coder" "B" (.int 0) ∧ Fld Z h b50 cS "value" "[B" (.ref b51) ∧ (n0 ≤ b51) ∧ (h0.size ≤ b51) ∧ qA Z h b51 b38 .byte ((16 : Int32) + ((((0 : Int32) + n_t_a0) + (45 : Int32)) - (16 : Int32))) (fun i => .int ((own_cp (own_li own_LIT) 0 (own_cp (own_cp fn_t_a0 0 (fun _ => (0 : Int32)) 0 (n_t_a0).toNatClampNeg) 0 (fun _ => (0 : Int32)) 0 16) (((0 : Int32) + n_t_a0)).toNatClampNeg 45) i)) ∧ Exa Z h b51 "[B" ∧ (b1 ≠ b50) ∧ (b1 ≠ b51) ∧ (b50 ≠ b51)
theorem rmnoL (l : Launch) (Z : State) (A0 : Array Value) (hw : ∀ d ∈ tables_1, d.before A0 Z = true) (ws : List Jvm.Cond) (t_a0 : Addr) (k_t_a0 : ClassId) (n_t_a0 : Int32) (fn_t_a0 : Nat → Int32) (f_CS : Int32) (f_US : Addr) (f_SS : Value) (a0 : Addr) (h0 : Heap) (n0 : Nat) (Z0 : n0 ≤ h0.size) (P_E_a0 : Exa Z h0 a0 "java/lang/String") (P_F_a0_coder : Fld Z h0 a0 cS "coder" "B" (.int 0)) (P_F_a0_value : Fld Z h0 a0 cS "value" "[B" (.ref t_a0)) (P_V_t_a0 : qA Z h0 t_a0 k_t_a0 .byte n_t_a0 (fun i => .int (fn_t_a0 i))) (P_S_CS : Sta Z h0 cS "COMPACT_STRINGS" "Z" (.int f_CS)) (hn_CS : ¬ (f_CS = (0 : Int32))) (P_S_US : Sta Z h0 "java/lang/Throwable" "UNASSIGNED_STACK" "[Ljava/lang/StackTraceElement;" (.ref f_US)) (P_S_SS : Sta Z h0 "java/lang/Throwable" "SUPPRESSED_SENTINEL" "Ljava/util/List;" f_SS) (hr_f_SS : f_SS.isRef = true) (P_T : ThS Z h0) (hp_2 : ¬ ((0 : Int32) < (((0 : Int32) + n_t_a0) - (16 : Int32)))) (hp_3 : ¬ n_t_a0 < 0) (hp_4 : 0 + (n_t_a0).toNatClampNeg ≤ (n_t_a0).toNatClampNeg) (hp_5 : 0 + (n_t_a0).toNatClampNeg ≤ 16) (hp_6 : (0 : Int32) < ((((0 : Int32) + n_t_a0) + (45 : Int32)) - (16 : Int32))) (hp_7 : ¬ (((((0 : Int32) + n_t_a0) + (45 : Int32)) - (16 : Int32)) < (18 : Int32))) (hp_8 : (0 : Int32) < ((16 : Int32) + ((((0 : Int32) + n_t_a0) + (45 : Int32)) - (16 : Int32)))) (hp_9 : ¬ ((2147483639 : Int32) < ((16 : Int32) + ((((0 : Int32) + n_t_a0) + (45 : Int32)) - (16 : Int32))))) (hp_10 : ¬ (((16 : Int32) + ((((0 : Int32) + n_t_a0) + (45 : Int32)) - (16 : Int32))) = (2147483647 : Int32))) (hp_11 : ¬ (((16 : Int32) + ((((0 : Int32) + n_t_a0) + (45 : Int32)) - (16 : Int32))) = (16 : Int32))) (hp_12 : ¬ (((16 : Int32) + ((((0 : Int32) + n_t_a0) + (45 : Int32)) - (16 : Int32))) < (0 : Int32))) (hp_13 : (((16 : Int32) + ((((0 : Int32) + n_t_a0) + (45 : Int32)) - (16 : Int32)))).toNatClampNeg ≤ 96) (hp_14 : ¬ (((16 : Int32) + ((((0 : Int32) + n_t_a0) + (45 : Int32)) - (16 : Int32))) < (16 : Int32))) (hp_15 : 0 + 16 ≤ (((16 : Int32) + ((((0 : Int32) + n_t_a0) + (45 : Int32)) - (16 : Int32)))).toNatClampNeg) (hp_16 : ¬ ((0 : Int32) + n_t_a0) < 0) (hp_17 : (((0 : Int32) + n_t_a0)).toNatClampNeg + 45 ≤ (((16 : Int32) + ((((0 : Int32) + n_t_a0) + (45 : Int32)) - (16 : Int32)))).toNatClampNeg) (hp_18 : (((0 : Int32) + n_t_a0) + (45 : Int32)) = ((16 : Int32) + ((((0 : Int32) + n_t_a0) + (45 : Int32)) - (16 : Int32)))) (hl0 : l.stackTraces = true) :
    MetFree l (⟨"com/example/model_check_sql/modelchecksql/model/ModelReading", "noState", "(Ljava/lang/String;)Lcom/example/model_check_sql/modelchecksql/model/ModelFormatException;"⟩ : MethodName) (head1 (Jvm.Cond.code (⟨"com/example/model_check_sql/modelchecksql/model/ModelReading", "noState", "(Ljava/lang/String;)Lcom/example/model_check_sql/modelchecksql/model/ModelFormatException;"⟩ : MethodName) prog_21_method_5_code 1 (some (.object "com/example/model_check_sql/modelchecksql/model/ModelFormatException")) :: ws) ({ frames := 8, cells := 9, slots := 3158, locals := 108 } : Room)) (fun a U => a = #[(.ref a0)] ∧ Z.Warmed39 U.vm ∧ U.heap = h0 ∧ CHv Z consts_1 U.vm h0) (fun _ _ bl s _ => s.vm.MethodsKnown ∧ s.vm.FramesKnown bl) (fun _ U o U' => ∃ v L, o = .returned v ∧ QnoL Z t_a0 k_t_a0 n_t_a0 fn_t_a0 f_CS f_US f_SS a0 h0 n0 v U'.heap L ∧ CHr Z consts_1 U.vm U.heap U'.vm U'.heap ∧ ReturnedEndW U o U' L 9 3158) := by
 refine MetFree.of_bodySF (plainFor_of_name pn_noL) hisR ?_
 intro p e s m args below meth c s₁ Bd hml0 hP hK
 obtain ⟨rfl, hZ, hh, hC0⟩ := hP
 have hwd := fun i {d : Jvm.Cond} (h : tables_1[i]? = some d) => hw d (List.mem_of_getElem? h)
 have hx := Bd.exec
 have hby := Bd.bytes
 have hml : c.maxLocals = 1 := hml0
 have hlk : meth.locks = false := Bd.notSynchronized
 have hown : s.vm.findClass "com/example/model_check_sql/modelchecksql/model/ModelReading" = some m.cls := findClass_of_methodNamed Bd.named
 have hnm := (name_of_methodNamed Bd.named Bd.method).1
 have X0 : Stand p l e ({ frames := 8, cells := 9, slots := 3158, locals := 108 } : Room) (s.setVm s.vm) m #[(.ref a0)] below meth c s₁ [] 0 0 := Stand.of_body Bd
 have e0 : s₁.heap = h0 := by rw [← hh, Bd.state]; rfl
 have N0 := Fr.nil n0
 have hEL := own_EW hw
 have hwS := fun a ha => hw a (own_atoms a ha)
 have CR0 : CHr Z consts_1 s.vm h0 s.vm h0 := CHr.refl hC0
 obtain ⟨kc0, hkc0⟩ : ∃ z, z = h0.size := ⟨_, rfl⟩
 have hk0 : kc0 ≤ h0.size := Nat.le_of_eq hkc0
 have hS : s.Since s.vm kc0 := own_since s kc0
 show qG p e below (own_FinW Z consts_1 s 9 3158 (QnoL Z t_a0 k_t_a0 n_t_a0 fn_t_a0 f_CS f_US f_SS a0 h0 n0)) _
 refine qb (fun t k => castTop (ef_noL m a0) k) ?_
 show qG p e below _ (s₁.setTop (mkF m 0 #[vR a0] []))
 obtain ⟨T1, h1, X1, e1, E1, A1, D1, U1, st1⟩ := newO X0 hx hZ hown (hwd 13 rfl) (hwd 14 rfl) (hwd 15 rfl) e0 (g := (mkF m 0 #[vR a0] [])) rfl (own_e hby d1 0 rfl) (by decide) (by decide)
 obtain ⟨b1, g1⟩ : ∃ z, z = h0.size := ⟨_, rfl⟩
 have ge_b1 : n0 ≤ b1 := ql Z0 (Nat.le_of_eq g1.symm)
 have sz_b1 := ql (Keep.refl h0 []).1 (Nat.le_of_eq g1.symm)
 have R1 : CHr Z consts_1 s.vm h0 s.vm h1 := CHr.ext E1 CR0.1
 have CR1 : CHr Z consts_1 s.vm h0 s.vm h1 := CR0.trans R1
 have hk1 : kc0 ≤ h1.size := ql hk0 E1.1
 have S_b1 : Safe Z consts_1 s.vm h1 b1 := Safe.ext E1 CR0.1 (Safe.new (Nat.le_of_eq g1.symm))
 have K1 : Keep h0 h1 [] := (Keep.refl h0 []).ext E1
 have Z1 := ql Z0 E1.1
 rw [← g1] at A1 D1 U1 st1
 have U1' : Unt h1 b1 := U1
 have lt_b1 := A1.lt
 have F_cause_b1 : Fld Z h1 b1 "java/lang/Throwable" "cause" "Ljava/lang/Throwable;" .null := D1 (Or.inl (hwd 182 rfl)) (ty := (.object "java/lang/Throwable")) (by decide)
 have F_stackTrace_b1 : Fld Z h1 b1 "java/lang/Throwable" "stackTrace" "[Ljava/lang/StackTraceElement;" .null := D1 (Or.inl (hwd 185 rfl)) (ty := (.array (.object "java/lang/StackTraceElement"))) (by decide)
 have F_suppressedExceptions_b1 : Fld Z h1 b1 "java/lang/Throwable" "suppressedExceptions" "Ljava/util/List;" .null := D1 (Or.inl (hwd 188 rfl)) (ty := (.object "java/util/List")) (by decide)
 have F_detailMessage_b1 : Fld Z h1 b1 "java/lang/Throwable" "detailMessage" "Ljava/lang/String;" .null := D1 (Or.inl (hwd 212 rfl)) (ty := (.object "java/lang/String")) (by decide)
 have F_backtrace_b1 : Fld Z h1 b1 "java/lang/Throwable" "backtrace" "Ljava/lang/Object;" .null := D1 (Or.inl (hwd 213 rfl)) (ty := (.object "java/lang/Object")) (by decide)
 have F_depth_b1 : Fld Z h1 b1 "java/lang/Throwable" "depth" "I" (.int 0) := D1 (Or.inl (hwd 214 rfl)) (ty := .int) (by decide)
 refine qb st1 ?_
 show qG p e below _ (T1.setTop (mkF m 3 #[vR a0] [(.ref b1)]))
 refine qb (fun _ k => XS.dup X1.here hx rfl (own_e hby d1 1 rfl) rfl rfl k) ?_
 obtain ⟨T2, h2, X2, e2, E2, A2, D2, -, st2⟩ := newO X1 hx hZ hown (hwd 16 rfl) (hwd 17 rfl) (hwd 18 rfl) e1 (g := (mkF m 4 #[vR a0] [(.ref b1), (.ref b1)])) rfl (own_e hby d1 2 rfl) (by decide) (by decide)
 obtain ⟨b2, g2⟩ : ∃ z, z = h1.size := ⟨_, rfl⟩
 have ge_b2 : n0 ≤ b2 := ql Z1 (Nat.le_of_eq g2.symm)
 have sz_b2 := ql K1.1 (Nat.le_of_eq g2.symm)
 have R2 : CHr Z consts_1 s.vm h1 s.vm h2 := CHr.ext E2 CR1.1
 have CR2 : CHr Z consts_1 s.vm h0 s.vm h2 := CR1.trans R2
 have hk2 : kc0 ≤ h2.size := ql hk1 E2.1
 have S_b2 : Safe Z consts_1 s.vm h2 b2 := Safe.ext E2 CR1.1 (Safe.new (Nat.le_of_eq g2.symm))
 have K2 : Keep h0 h2 [] := K1.ext E2
 have Z2 := ql Z1 E2.1
 rw [← g2] at A2 D2 st2
 have lt_b2 := A2.lt
 have F_value_b2 : Fld Z h2 b2 cA "value" "[B" .null := D2 (Or.inl (hwd 33 rfl)) (ty := (.array .byte)) (by decide)
 have F_coder_b2 : Fld Z h2 b2 cA "coder" "B" (.int 0) := D2 (Or.inl (hwd 35 rfl)) (ty := .byte) (by decide)
 have F_count_b2 : Fld Z h2 b2 cA "count" "I" (.int 0) := D2 (Or.inl (hwd 60 rfl)) (ty := .int) (by decide)
 have F_maybeLatin1_b2 : Fld Z h2 b2 cA "maybeLatin1" "Z" (.int 0) := D2 (Or.inl (hwd 299 rfl)) (ty := .boolean) (by decide)
 refine qb st2 ?_
 show qG p e below _ (T2.setTop (mkF m 7 #[vR a0] [(.ref b2), (.ref b1), (.ref b1)]))
 refine qb (fun _ k => XS.dup X2.here hx rfl (own_e hby d1 3 rfl) rfl rfl k) ?_
 have F3 := ((P_S_CS.ext E1).ext E2)
 obtain ⟨_, T4, Lc4, X4, hQ4, st4⟩ := own_cI X2 hx hZ hown hml (rmsbi l Z A0 hw [] f_CS b2 (.null) (0 : Int32) (0 : Int32) (0 : Int32) h2 n0 Z2 A2 F3 hn_CS F_value_b2 F_coder_b2 F_count_b2 F_maybeLatin1_b2 ge_b2) (hwd 19 rfl) (hwd 20 rfl) (hwd 18 rfl) (hwd 21 rfl) (by decide) pd_19 e2 rfl (g := (mkF m 8 #[vR a0] [(.ref b2), (.ref b2), (.ref b1), (.ref b1)])) (rest := [(.ref b2), (.ref b1), (.ref b1)]) rfl rfl rfl rfl (own_e hby d1 4 rfl) rfl
 obtain ⟨b5, b6, rfl, Nq4, Kq4, F7, F8, F9, F10, F11, hp12, hp13, F14, F15⟩ := hQ4
 have N4 := Fr.app N0 Nq4
 have R4 : CHr Z consts_1 s.vm h2 s.vm T4.heap := CHr.keep Kq4 ((allS (Safe.exa hZ.alike A2 (by decide) (by decide)) all0)) CR2.1
 have CR4 : CHr Z consts_1 s.vm h0 s.vm T4.heap := CR2.trans R4
 have hk4 : kc0 ≤ T4.heap.size := ql hk2 Kq4.1
 have K4 : Keep h0 T4.heap [] := K2.trans Kq4 ((allS (Or.inr sz_b2) all0))
 have Z4 := ql Z2 Kq4.1
 have sz_b5 := ql K2.1 hp13
 have S_b5 : Safe Z consts_1 s.vm T4.heap b5 := Safe.keep Kq4 ((allS (Safe.exa hZ.alike A2 (by decide) (by decide)) all0)) CR2.1 (Safe.new hp13)
 have lt_b5 := F14.lt
 refine qb st4 ?_
 show qG p e below _ (T4.setTop (mkF m 11 #[vR a0] [(.ref b2), (.ref b1), (.ref b1)]))
 refine qb (fun _ k => XS.aloadN X4.here hx rfl (own_e hby d1 5 rfl) rfl rfl k) ?_
 have F16 := (((P_E_a0.ext E1).ext E2).keep Kq4)
 have F17 := (((P_F_a0_coder.ext E1).ext E2).keep Kq4 (ninS (qn ((P_E_a0.ext E1)).lt (Nat.le_of_eq g2.symm)) nin0))
 have F18 := (((P_F_a0_value.ext E1).ext E2).keep Kq4 (ninS (qn ((P_E_a0.ext E1)).lt (Nat.le_of_eq g2.symm)) nin0))
 have F19 := (((P_V_t_a0.ext E1).ext E2).keep Kq4 (ninS (qn ((P_V_t_a0.ext E1)).lt (Nat.le_of_eq g2.symm)) nin0))
 have F20 := qk F3 Kq4 (allS (qx A2) all0)
 obtain ⟨_, T21, Lc21, X21, hQ21, st21⟩ := own_cV X4 hx hZ hown hml (rma00N l Z A0 hw [] b5 (0 : Int32) b6 (16 : Int32) (fun _ => (0 : Int32)) t_a0 k_t_a0 n_t_a0 fn_t_a0 f_CS b2 a0 (0 : Int32) T4.heap n0 Z4 F7 F9 F8 F10 F15 F16 F17 F18 F19 F20 hn_CS F11 hp_2 (show ¬ (0 : Int32) < 0 by decide) hp_3 hp_4 hp_5 hp12 ge_b2) (hwd 36 rfl) (hwd 38 rfl) (hwd 18 rfl) (hwd 40 rfl) (by decide) pd_36 rfl (hwd 37 rfl) (hwd 39 rfl) F7 (g := (mkF m 12 #[vR a0] [(.ref a0), (.ref b2), (.ref b1), (.ref b1)])) (rest := [(.ref b1), (.ref b1)]) rfl rfl rfl rfl (own_e hby d1 6 rfl) rfl
 obtain ⟨rfl, Nq21, Kq21, F22, F23, F24, F25, F26, F27⟩ := hQ21
 have N21 := Fr.app N4 Nq21
 have R21 : CHr Z consts_1 s.vm T4.heap s.vm T21.heap := CHr.keep Kq21 ((allS (Safe.exa hZ.alike F7 (by decide) (by decide)) (allS S_b5 all0))) CR4.1
 have CR21 : CHr Z consts_1 s.vm h0 s.vm T21.heap := CR4.trans R21
 have hk21 : kc0 ≤ T21.heap.size := ql hk4 Kq21.1
 have K21 : Keep h0 T21.heap [] := K4.trans Kq21 ((allS (Or.inr sz_b2) (allS (Or.inr sz_b5) all0)))
 have Z21 := ql Z4 Kq21.1
 refine qb st21 ?_
 show qG p e below _ (T21.setTop (mkF m 15 #[vR a0] [(.ref b2), (.ref b1), (.ref b1)]))
 obtain ⟨b28, T28, h28, kc28, t28, kk28, X28, e28, E28, hS, hk28, hZ, hown, A28, C28, F28, V28, lt28, ltb28, R28, Li28, -, st28⟩ := ldcCH X21 hx hZ hown (hwd 86 rfl) hwS rfl hS hk21 hEL (by decide) CR21.1 (vs := (own_LIT : List Int32).map Value.int) (z := (45 : Int32)) ⟨by decide, by decide⟩ (by decide) (by decide) (g := (mkF m 15 #[vR a0] [(.ref b2), (.ref b1), (.ref b1)])) rfl (own_e hby d1 7 rfl) (n := 180) (by decide) (by decide) (by decide) (by decide)
 have V28' : qA Z h28 t28 kk28 .byte (45 : Int32) (fun i => .int ((own_li own_LIT) i)) := own_arfLi V28
 have CR28 : CHr Z consts_1 s.vm h0 T28.vm h28 := CR21.trans R28
 have K28 : Keep h0 h28 [] := K21.ext E28
 have Z28 := ql Z21 E28.1
 refine qb st28 ?_
 have F29 := (F22.ext E28)
 have F30 := (F23.ext E28)
 have F31 := (F24.ext E28)
 have F32 := (F25.ext E28)
 have F33 := (F27.ext E28)
 have F34 := ((qk F20 Kq21 (allS (qx F7) (allS (qx F14) all0))).ext E28)
 have F35 := (F26.ext E28)
 obtain ⟨_, T36, Lc36, X36, hQ36, st36⟩ := own_cV X28 hx hZ hown hml (rma00G l Z A0 hw [] b5 ((0 : Int32) + n_t_a0) b6 (16 : Int32) (own_cp fn_t_a0 0 (fun _ => (0 : Int32)) 0 (n_t_a0).toNatClampNeg) t28 kk28 (45 : Int32) (own_li own_LIT) f_CS b2 b28 (0 : Int32) h28 n0 Z28 F29 F30 F31 F32 F33 A28 C28 F28 V28' F34 hn_CS F35 hp_6 hp_7 hp_8 hp_9 hp_10 hp_11 hp_12 hp_13 hp_14 (show ¬ (16 : Int32) < 0 by decide) (show 0 + 16 ≤ 16 by decide) hp_15 ge_b2 hp_16 (show ¬ (45 : Int32) < 0 by decide) (show 0 + 45 ≤ 45 by decide) hp_17) (hwd 36 rfl) (hwd 38 rfl) (hwd 18 rfl) (hwd 40 rfl) (by decide) pd_36 e28 (hwd 37 rfl) (hwd 39 rfl) F29 (g := (mkF m 17 #[vR a0] [(.ref b28), (.ref b2), (.ref b1), (.ref b1)])) (rest := [(.ref b1), (.ref b1)]) rfl rfl rfl rfl (own_e hby d1 8 rfl) rfl
 obtain ⟨b37, b38, rfl, Nq36, Kq36, F39, F40, F41, F42, F43, hp44, hp45, F46, F47⟩ := hQ36
 have N36 := Fr.app N21 Nq36
 have R36 : CHr Z consts_1 T28.vm h28 T28.vm T36.heap := CHr.keep Kq36 ((allS (Safe.exa hZ.alike F29 (by decide) (by decide)) all0)) CR28.1
 have CR36 : CHr Z consts_1 s.vm h0 T28.vm T36.heap := CR28.trans R36
 have hk36 : kc28 ≤ T36.heap.size := ql hk28 Kq36.1
 have K36 : Keep h0 T36.heap [] := K28.trans Kq36 ((allS (Or.inr sz_b2) all0))
 have Z36 := ql Z28 Kq36.1
 have sz_b37 := ql K28.1 hp45
 have S_b37 : Safe Z consts_1 T28.vm T36.heap b37 := Safe.keep Kq36 ((allS (Safe.exa hZ.alike F29 (by decide) (by decide)) all0)) CR28.1 (Safe.new hp45)
 have lt_b37 := F46.lt
 refine qb st36 ?_
 show qG p e below _ (T36.setTop (mkF m 20 #[vR a0] [(.ref b2), (.ref b1), (.ref b1)]))
 have F48 := qk F34 Kq36 (allS (qx F29) all0)
 obtain ⟨_, T49, Lc49, X49, hQ49, st49⟩ := own_cV X36 hx hZ hown hml (rmtosL l Z A0 hw [] b37 (((0 : Int32) + n_t_a0) + (45 : Int32)) b38 ((16 : Int32) + ((((0 : Int32) + n_t_a0) + (45 : Int32)) - (16 : Int32))) (own_cp (own_li own_LIT) 0 (own_cp (own_cp fn_t_a0 0 (fun _ => (0 : Int32)) 0 (n_t_a0).toNatClampNeg) 0 (fun _ => (0 : Int32)) 0 16) (((0 : Int32) + n_t_a0)).toNatClampNeg 45) f_CS b2 T36.heap n0 Z36 F39 F40 F41 F42 F47 F46 F48 hn_CS hp_18 hp_13) (hwd 110 rfl) (hwd 112 rfl) (hwd 18 rfl) (hwd 114 rfl) (by decide) pd_110 rfl (hwd 111 rfl) (hwd 113 rfl) F39 (g := (mkF m 20 #[vR a0] [(.ref b2), (.ref b1), (.ref b1)])) (rest := [(.ref b1), (.ref b1)]) rfl rfl rfl rfl (own_e hby d1 9 rfl) rfl
 obtain ⟨b50, b51, rfl, Nq49, Kq49, hp52, hp53, F54, F55, F56, hp57, hp58, F59, F60, hp61⟩ := hQ49
 have N49 := Fr.app N36 Nq49
 have R49 : CHr Z consts_1 T28.vm T36.heap T28.vm T49.heap := CHr.keep Kq49 (all0) CR36.1
 have CR49 : CHr Z consts_1 s.vm h0 T28.vm T49.heap := CR36.trans R49
 have hk49 : kc28 ≤ T49.heap.size := ql hk36 Kq49.1
 have K49 : Keep h0 T49.heap [] := K36.trans Kq49 (all0)
 have Z49 := ql Z36 Kq49.1
 have sz_b50 := ql K36.1 hp53
 have S_b50 : Safe Z consts_1 T28.vm T49.heap b50 := Safe.keep Kq49 (all0) CR36.1 (Safe.new hp53)
 have lt_b50 := F54.lt
 have sz_b51 := ql K36.1 hp58
 have S_b51 : Safe Z consts_1 T28.vm T49.heap b51 := Safe.keep Kq49 (all0) CR36.1 (Safe.new hp58)
 have lt_b51 := F59.lt
 refine qb st49 ?_
 show qG p e below _ (T49.setTop (mkF m 23 #[vR a0] [(.ref b50), (.ref b1), (.ref b1)]))
 have F62 := ((((((A1.ext E2).keep Kq4).keep Kq21).ext E28).keep Kq36).keep Kq49)
 have F63 := (Unt.keep Kq49 nin0 (Unt.keep Kq36 (ninS (qn A1.lt (Nat.le_of_eq g2.symm)) nin0) ((Unt.keep Kq21 (ninS (qn A1.lt (Nat.le_of_eq g2.symm)) (ninS (qn ((A1.ext E2)).lt hp13) nin0)) (Unt.keep Kq4 (ninS (qn A1.lt (Nat.le_of_eq g2.symm)) nin0) (U1'.ext E2))).ext E28)))
 have F64 := ((((((F_backtrace_b1.ext E2).keep Kq4 (ninS (qn A1.lt (Nat.le_of_eq g2.symm)) nin0)).keep Kq21 (ninS (qn A1.lt (Nat.le_of_eq g2.symm)) (ninS (qn ((A1.ext E2)).lt hp13) nin0))).ext E28).keep Kq36 (ninS (qn A1.lt (Nat.le_of_eq g2.symm)) nin0)).keep Kq49 nin0)
 have F65 := qk (qk ((qk (qk ((P_S_US.ext E1).ext E2) Kq4 (allS (qx A2) all0)) Kq21 (allS (qx F7) (allS (qx F14) all0))).ext E28) Kq36 (allS (qx F29) all0)) Kq49 all0
 have F66 := qk (qk ((qk (qk ((P_S_SS.ext E1).ext E2) Kq4 (allS (qx A2) all0)) Kq21 (allS (qx F7) (allS (qx F14) all0))).ext E28) Kq36 (allS (qx F29) all0)) Kq49 all0
 have F67 := (ThS.keep Kq49 ns0 (ThS.keep Kq36 (nsS (qx F29) ns0) ((ThS.keep Kq21 (nsS (qx F7) (nsS (qx F14) ns0)) (ThS.keep Kq4 (nsS (qx A2) ns0) ((P_T.ext E1).ext E2))).ext E28)))
 have F68 := ((((((F_cause_b1.ext E2).keep Kq4 (ninS (qn A1.lt (Nat.le_of_eq g2.symm)) nin0)).keep Kq21 (ninS (qn A1.lt (Nat.le_of_eq g2.symm)) (ninS (qn ((A1.ext E2)).lt hp13) nin0))).ext E28).keep Kq36 (ninS (qn A1.lt (Nat.le_of_eq g2.symm)) nin0)).keep Kq49 nin0)
 have F69 := ((((((F_stackTrace_b1.ext E2).keep Kq4 (ninS (qn A1.lt (Nat.le_of_eq g2.symm)) nin0)).keep Kq21 (ninS (qn A1.lt (Nat.le_of_eq g2.symm)) (ninS (qn ((A1.ext E2)).lt hp13) nin0))).ext E28).keep Kq36 (ninS (qn A1.lt (Nat.le_of_eq g2.symm)) nin0)).keep Kq49 nin0)
 have F70 := ((((((F_suppressedExceptions_b1.ext E2).keep Kq4 (ninS (qn A1.lt (Nat.le_of_eq g2.symm)) nin0)).keep Kq21 (ninS (qn A1.lt (Nat.le_of_eq g2.symm)) (ninS (qn ((A1.ext E2)).lt hp13) nin0))).ext E28).keep Kq36 (ninS (qn A1.lt (Nat.le_of_eq g2.symm)) nin0)).keep Kq49 nin0)
 have F71 := ((((((F_detailMessage_b1.ext E2).keep Kq4 (ninS (qn A1.lt (Nat.le_of_eq g2.symm)) nin0)).keep Kq21 (ninS (qn A1.lt (Nat.le_of_eq g2.symm)) (ninS (qn ((A1.ext E2)).lt hp13) nin0))).ext E28).keep Kq36 (ninS (qn A1.lt (Nat.le_of_eq g2.symm)) nin0)).keep Kq49 nin0)
 have F72 := ((((((F_depth_b1.ext E2).keep Kq4 (ninS (qn A1.lt (Nat.le_of_eq g2.symm)) nin0)).keep Kq21 (ninS (qn A1.lt (Nat.le_of_eq g2.symm)) (ninS (qn ((A1.ext E2)).lt hp13) nin0))).ext E28).keep Kq36 (ninS (qn A1.lt (Nat.le_of_eq g2.symm)) nin0)).keep Kq49 nin0)
 obtain ⟨_, _, ⟨T73, L73, k73, n73⟩, -, X73, ⟨Lc73, hQ73, l73, y73, z73⟩, st73⟩ := X49.specialBack hx (y := (⟨"com/example/model_check_sql/modelchecksql/model/ModelFormatException", "<init>", "(Ljava/lang/String;)V"⟩ : MethodName)) rfl hown (mvT hZ (hwd 154 rfl)) (mvT hZ (hwd 155 rfl)) (mvT hZ (hwd 156 rfl)) (by decide) (backOfKL (W := 1) (rm26 l Z A0 hw [] f_US f_SS b1 b50 (.null) (.null) (.null) (.null) (0 : Int32) T49.heap n0 Z49 F62 F63 F64 F65 F66 hr_f_SS F67 F68 F69 F70 rfl F71 F72 ge_b1 hl0) hZ (hwd 156 rfl) (hwd 15 rfl) (by decide) (by decide) (hK.1.alikeC hS.1.alike) (hK.2.alikeC hS.1.alike)) (g := (mkF m 23 #[vR a0] [(.ref b50), (.ref b1), (.ref b1)])) rfl (by rw [hml]; rfl) (Steps.refl _) (a := b1) (argsL := [(.ref b50)]) (rest := [(.ref b1)]) (lenOf pd_71 rfl) rfl (by show 2 * 0 + _ ≤ _; exact Nat.le_of_eq rfl) (own_e hby d1 10 rfl) (fun _ _ => ⟨rfl, rfl, (by decide : 8 + 1 ≤ _), (by decide : 406 + 2752 ≤ _)⟩)
 dsimp only [Pt.U, Pt.locs, Pt.cells, Pt.slots] at X73 l73 y73 z73 st73 hQ73
 subst l73 y73 z73
 obtain ⟨rfl, Nq73, Kq73, F74, F75⟩ := hQ73
 have N73 := Fr.app N49 Nq73
 have R73 : CHr Z consts_1 T28.vm T49.heap T28.vm T73.heap := CHr.keep Kq73 ((allS (Safe.exa hZ.alike F62 (by decide) (by decide)) all0)) CR49.1
 have CR73 : CHr Z consts_1 s.vm h0 T28.vm T73.heap := CR49.trans R73
 have hk73 : kc28 ≤ T73.heap.size := ql hk49 Kq73.1
 have K73 : Keep h0 T73.heap [] := K49.trans Kq73 ((allS (Or.inr sz_b1) all0))
 have Z73 := ql Z49 Kq73.1
 refine qb (fun _ k => st73.trans k) ?_
 show qG p e below _ (T73.setTop (mkF m 26 #[vR a0] [(.ref b1)]))
 have F76 := (F54.keep Kq73)
 have F77 := (F55.keep Kq73 (ninS (qm ((((((A1.ext E2).keep Kq4).keep Kq21).ext E28).keep Kq36)).lt hp53) nin0))
 have F78 := (F56.keep Kq73 (ninS (qm ((((((A1.ext E2).keep Kq4).keep Kq21).ext E28).keep Kq36)).lt hp53) nin0))
 have F79 := (F59.keep Kq73 (ninS (qm ((((((A1.ext E2).keep Kq4).keep Kq21).ext E28).keep Kq36)).lt hp58) nin0))
 have F80 := (F60.keep Kq73)
 exact own_retRW X73 hx hS hk73 hZ hEL hh CR73 Bd.returns (by decide) rfl (own_e hby d1 11 rfl) hlk rfl ⟨_, _, _, _, rfl, N73, K73, ge_b1, sz_b1, F74, F75, hp52, sz_b50, F76, F77, F78, hp57, sz_b51, F79, F80, (qn ((((((A1.ext E2).keep Kq4).keep Kq21).ext E28).keep Kq36)).lt hp53), (qn ((((((A1.ext E2).keep Kq4).keep Kq21).ext E28).keep Kq36)).lt hp58), hp61⟩ (by decide) (by decide)
theorem ef_noU (m : MethodId) (a0 : Addr) : entryFrame m #[(.ref a0)] 1 = mkF m 0 #[vR a0] [] := rfl
def QnoU (Z : State) (t_a0 : Addr) (k_t_a0 : ClassId) (n_t_a0 : Int32) (fn_t_a0 : Nat → Int32) (f_CS : Int32) (f_SF : Value) (f_US : Addr) (f_SS : Value) (a0 : Addr) (h0 : Heap) (n0 : Nat) (v : Option Value) (h : Heap) (L : List Loc) : Prop := ∃ (rr r5001 r5002 : Addr) (kk5003 : ClassId) (gg5004 : Nat → Int32), v = some (.ref rr) ∧ Fr n0 L ∧ Keep h0 h [] ∧ (n0 ≤ rr) ∧ (h0.size ≤ rr) ∧ (n0 ≤ r5001) ∧ (h0.size ≤ r5001) ∧ (n0 ≤ r5002) ∧ (h0.size ≤ r5002) ∧ (rr ≠ r5001) ∧ (rr ≠ r5002) ∧ (r5001 ≠ r5002) ∧ Exa Z h rr "com/example/model_check_sql/modelchecksql/model/ModelFormatException" ∧ Fld Z h rr "java/lang/Throwable" "detailMessage" "Ljava/lang/String;" (.ref r5001) ∧ Exa Z h r5001 "java/lang/String" ∧ Fld Z h r5001 cS "coder" "B" (.int 1) ∧ Fld Z h r5001 cS "value" "[B" (.ref r5002) ∧ qA Z h r5002 kk5003 .byte ((((32 : Int32) + ((((n_t_a0 >>> ((1 : Int32) &&& 31)) + (45 : Int32)) <<< ((1 : Int32) &&& 31)) - (32 : Int32))) >>> ((1 : Int32) &&& 31)) <<< ((1 : Int32) &&& 31)) (fun i => .int (gg5004 i)) ∧ Exa Z h r5002 "[B" ∧ ((∃ (b49_noU : Nat → Int32), ((∃ (b4_a10G : Nat → Int32), ((∃ (b26_ap10G : Nat → Int32), ((∃ (b5_ps10 : Nat → Int32), ((∃ (b6_gb01 : Nat → Int32), ((∃ (b2_slL : Nat → Int32), (own_inf (own_li own_LIT) (own_cp (own_cp fn_t_a0 0 (fun _ => (0 : Int32)) 0 (n_t_a0).toNatClampNeg) 0 (fun _ => (0 : Int32)) 0 32) b2_slL ((n_t_a0 >>> ((1 : Int32) &&& 31))).toNatClampNeg 45) ∧ b6_gb01 = b2_slL)) ∧ b5_ps10 = b6_gb01)) ∧ b26_ap10G = b5_ps10)) ∧ b4_a10G = b26_ap10G)) ∧ b49_noU = b4_a10G)) ∧ gg5004 = b49_noU))
theorem rmnoU (l : Launch) (Z : State) (A0 : Array Value) (hw : ∀ d ∈ tables_1, d.before A0 Z = true) (ws : List Jvm.Cond) (t_a0 : Addr) (k_t_a0 : ClassId) (n_t_a0 : Int32) (fn_t_a0 : Nat → Int32) (f_CS : Int32) (f_SF : Value) (f_US : Addr) (f_SS : Value) (a0 : Addr) (h0 : Heap) (n0 : Nat) (Z0 : n0 ≤ h0.size) (P_E_a0 : Exa Z h0 a0 "java/lang/String") (P_F_a0_coder : Fld Z h0 a0 cS "coder" "B" (.int 1)) (P_F_a0_value : Fld Z h0 a0 cS "value" "[B" (.ref t_a0)) (P_V_t_a0 : qA Z h0 t_a0 k_t_a0 .byte n_t_a0 (fun i => .int (fn_t_a0 i))) (P_S_CS : Sta Z h0 cS "COMPACT_STRINGS" "Z" (.int f_CS)) (hn_CS : ¬ (f_CS = (0 : Int32))) (P_S_SF : Sta Z h0 "jdk/internal/util/Preconditions" "SIOOBE_FORMATTER" "Ljava/util/function/BiFunction;" f_SF) (hr_f_SF : f_SF.isRef = true) (P_S_UD : Sta Z h0 cU "$assertionsDisabled" "Z" (.int 1)) (P_S_HI_BYTE_SHIFT : Sta Z h0 cU "HI_BYTE_SHIFT" "I" (.int 0)) (P_S_LO_BYTE_SHIFT : Sta Z h0 cU "LO_BYTE_SHIFT" "I" (.int 8)) (P_S_US : Sta Z h0 "java/lang/Throwable" "UNASSIGNED_STACK" "[Ljava/lang/StackTraceElement;" (.ref f_US)) (P_S_SS : Sta Z h0 "java/lang/Throwable" "SUPPRESSED_SENTINEL" "Ljava/util/List;" f_SS) (hr_f_SS : f_SS.isRef = true) (P_T : ThS Z h0) (hp_3 : ¬ ((0 : Int32) < ((n_t_a0 >>> ((1 : Int32) &&& 31)) - (16 : Int32)))) (hp_4 : ¬ n_t_a0 < 0) (hp_5 : 0 + (n_t_a0).toNatClampNeg ≤ (n_t_a0).toNatClampNeg) (hp_6 : 0 + (n_t_a0).toNatClampNeg ≤ 32) (hp_7 : (0 : Int32) < (((n_t_a0 >>> ((1 : Int32) &&& 31)) + (45 : Int32)) - (16 : Int32))) (hp_8 : ¬ (((((n_t_a0 >>> ((1 : Int32) &&& 31)) + (45 : Int32)) <<< ((1 : Int32) &&& 31)) - (32 : Int32)) < (36 : Int32))) (hp_9 : (0 : Int32) < ((32 : Int32) + ((((n_t_a0 >>> ((1 : Int32) &&& 31)) + (45 : Int32)) <<< ((1 : Int32) &&& 31)) - (32 : Int32)))) (hp_10 : ¬ ((2147483639 : Int32) < ((32 : Int32) + ((((n_t_a0 >>> ((1 : Int32) &&& 31)) + (45 : Int32)) <<< ((1 : Int32) &&& 31)) - (32 : Int32))))) (hp_11 : ¬ (((32 : Int32) + ((((n_t_a0 >>> ((1 : Int32) &&& 31)) + (45 : Int32)) <<< ((1 : Int32) &&& 31)) - (32 : Int32))) = (2147483647 : Int32))) (hp_12 : ¬ (((((32 : Int32) + ((((n_t_a0 >>> ((1 : Int32) &&& 31)) + (45 : Int32)) <<< ((1 : Int32) &&& 31)) - (32 : Int32))) >>> ((1 : Int32) &&& 31)) <<< ((1 : Int32) &&& 31)) = (32 : Int32))) (hp_13 : ¬ (((((32 : Int32) + ((((n_t_a0 >>> ((1 : Int32) &&& 31)) + (45 : Int32)) <<< ((1 : Int32) &&& 31)) - (32 : Int32))) >>> ((1 : Int32) &&& 31)) <<< ((1 : Int32) &&& 31)) < (0 : Int32))) (hp_14 : (((((32 : Int32) + ((((n_t_a0 >>> ((1 : Int32) &&& 31)) + (45 : Int32)) <<< ((1 : Int32) &&& 31)) - (32 : Int32))) >>> ((1 : Int32) &&& 31)) <<< ((1 : Int32) &&& 31))).toNatClampNeg ≤ 96) (hp_15 : ¬ (((((32 : Int32) + ((((n_t_a0 >>> ((1 : Int32) &&& 31)) + (45 : Int32)) <<< ((1 : Int32) &&& 31)) - (32 : Int32))) >>> ((1 : Int32) &&& 31)) <<< ((1 : Int32) &&& 31)) < (32 : Int32))) (hp_16 : 0 + 32 ≤ (((((32 : Int32) + ((((n_t_a0 >>> ((1 : Int32) &&& 31)) + (45 : Int32)) <<< ((1 : Int32) &&& 31)) - (32 : Int32))) >>> ((1 : Int32) &&& 31)) <<< ((1 : Int32) &&& 31))).toNatClampNeg) (hp_17 : 0 ≤ ((n_t_a0 >>> ((1 : Int32) &&& 31))).toInt ∧ 0 ≤ ((45 : Int32)).toInt ∧ ((n_t_a0 >>> ((1 : Int32) &&& 31))).toInt + ((45 : Int32)).toInt ≤ 48 ∧ 2 * (((n_t_a0 >>> ((1 : Int32) &&& 31))).toInt + ((45 : Int32)).toInt) ≤ (((((32 : Int32) + ((((n_t_a0 >>> ((1 : Int32) &&& 31)) + (45 : Int32)) <<< ((1 : Int32) &&& 31)) - (32 : Int32))) >>> ((1 : Int32) &&& 31)) <<< ((1 : Int32) &&& 31))).toInt) (hp_18 : ¬ ((((((((32 : Int32) + ((((n_t_a0 >>> ((1 : Int32) &&& 31)) + (45 : Int32)) <<< ((1 : Int32) &&& 31)) - (32 : Int32))) >>> ((1 : Int32) &&& 31)) <<< ((1 : Int32) &&& 31)) >>> ((1 : Int32) &&& 31)) ||| (n_t_a0 >>> ((1 : Int32) &&& 31))) ||| (45 : Int32)) < (0 : Int32))) (hp_19 : ¬ (((((((32 : Int32) + ((((n_t_a0 >>> ((1 : Int32) &&& 31)) + (45 : Int32)) <<< ((1 : Int32) &&& 31)) - (32 : Int32))) >>> ((1 : Int32) &&& 31)) <<< ((1 : Int32) &&& 31)) >>> ((1 : Int32) &&& 31)) - (n_t_a0 >>> ((1 : Int32) &&& 31))) < (45 : Int32))) (hp_20 : (((n_t_a0 >>> ((1 : Int32) &&& 31)) + (45 : Int32)) <<< ((1 : Int32) &&& 31)) = ((((32 : Int32) + ((((n_t_a0 >>> ((1 : Int32) &&& 31)) + (45 : Int32)) <<< ((1 : Int32) &&& 31)) - (32 : Int32))) >>> ((1 : Int32) &&& 31)) <<< ((1 : Int32) &&& 31))) (hl0 : l.stackTraces = true) :
    MetFree l (⟨"com/example/model_check_sql/modelchecksql/model/ModelReading", "noState", "(Ljava/lang/String;)Lcom/example/model_check_sql/modelchecksql/model/ModelFormatException;"⟩ : MethodName) (head1 (Jvm.Cond.code (⟨"com/example/model_check_sql/modelchecksql/model/ModelReading", "noState", "(Ljava/lang/String;)Lcom/example/model_check_sql/modelchecksql/model/ModelFormatException;"⟩ : MethodName) prog_21_method_5_code 1 (some (.object "com/example/model_check_sql/modelchecksql/model/ModelFormatException")) :: ws) ({ frames := 10, cells := 10, slots := 3254, locals := 145 } : Room)) (fun a U => a = #[(.ref a0)] ∧ Z.Warmed39 U.vm ∧ U.heap = h0 ∧ CHv Z consts_1 U.vm h0) (fun _ _ bl s _ => s.vm.MethodsKnown ∧ s.vm.FramesKnown bl) (fun _ U o U' => ∃ v L, o = .returned v ∧ QnoU Z t_a0 k_t_a0 n_t_a0 fn_t_a0 f_CS f_SF f_US f_SS a0 h0 n0 v U'.heap L ∧ CHr Z consts_1 U.vm U.heap U'.vm U'.heap ∧ ReturnedEndW U o U' L 10 3254) := by
 refine MetFree.of_bodySF (plainFor_of_name pn_noL) hisR ?_
 intro p e s m args below meth c s₁ Bd hml0 hP hK
 obtain ⟨rfl, hZ, hh, hC0⟩ := hP
 have hwd := fun i {d : Jvm.Cond} (h : tables_1[i]? = some d) => hw d (List.mem_of_getElem? h)
 have hx := Bd.exec
 have hby := Bd.bytes
 have hml : c.maxLocals = 1 := hml0
 have hlk : meth.locks = false := Bd.notSynchronized
 have hown : s.vm.findClass "com/example/model_check_sql/modelchecksql/model/ModelReading" = some m.cls := findClass_of_methodNamed Bd.named
 have hnm := (name_of_methodNamed Bd.named Bd.method).1
 have X0 : Stand p l e ({ frames := 10, cells := 10, slots := 3254, locals := 145 } : Room) (s.setVm s.vm) m #[(.ref a0)] below meth c s₁ [] 0 0 := Stand.of_body Bd
 have e0 : s₁.heap = h0 := by rw [← hh, Bd.state]; rfl
 have N0 := Fr.nil n0
 have hEL := own_EW hw
 have hwS := fun a ha => hw a (own_atoms a ha)
 have CR0 : CHr Z consts_1 s.vm h0 s.vm h0 := CHr.refl hC0
 obtain ⟨kc0, hkc0⟩ : ∃ z, z = h0.size := ⟨_, rfl⟩
 have hk0 : kc0 ≤ h0.size := Nat.le_of_eq hkc0
 have hS : s.Since s.vm kc0 := own_since s kc0
 show qG p e below (own_FinW Z consts_1 s 10 3254 (QnoU Z t_a0 k_t_a0 n_t_a0 fn_t_a0 f_CS f_SF f_US f_SS a0 h0 n0)) _
 refine qb (fun t k => castTop (ef_noU m a0) k) ?_
 show qG p e below _ (s₁.setTop (mkF m 0 #[vR a0] []))
 obtain ⟨T1, h1, X1, e1, E1, A1, D1, U1, st1⟩ := newO X0 hx hZ hown (hwd 13 rfl) (hwd 14 rfl) (hwd 15 rfl) e0 (g := (mkF m 0 #[vR a0] [])) rfl (own_e hby d1 0 rfl) (by decide) (by decide)
 obtain ⟨b1, g1⟩ : ∃ z, z = h0.size := ⟨_, rfl⟩
 have ge_b1 : n0 ≤ b1 := ql Z0 (Nat.le_of_eq g1.symm)
 have sz_b1 := ql (Keep.refl h0 []).1 (Nat.le_of_eq g1.symm)
 have R1 : CHr Z consts_1 s.vm h0 s.vm h1 := CHr.ext E1 CR0.1
 have CR1 : CHr Z consts_1 s.vm h0 s.vm h1 := CR0.trans R1
 have hk1 : kc0 ≤ h1.size := ql hk0 E1.1
 have S_b1 : Safe Z consts_1 s.vm h1 b1 := Safe.ext E1 CR0.1 (Safe.new (Nat.le_of_eq g1.symm))
 have K1 : Keep h0 h1 [] := (Keep.refl h0 []).ext E1
 have Z1 := ql Z0 E1.1
 rw [← g1] at A1 D1 U1 st1
 have U1' : Unt h1 b1 := U1
 have lt_b1 := A1.lt
 have F_cause_b1 : Fld Z h1 b1 "java/lang/Throwable" "cause" "Ljava/lang/Throwable;" .null := D1 (Or.inl (hwd 182 rfl)) (ty := (.object "java/lang/Throwable")) (by decide)
 have F_stackTrace_b1 : Fld Z h1 b1 "java/lang/Throwable" "stackTrace" "[Ljava/lang/StackTraceElement;" .null := D1 (Or.inl (hwd 185 rfl)) (ty := (.array (.object "java/lang/StackTraceElement"))) (by decide)
 have F_suppressedExceptions_b1 : Fld Z h1 b1 "java/lang/Throwable" "suppressedExceptions" "Ljava/util/List;" .null := D1 (Or.inl (hwd 188 rfl)) (ty := (.object "java/util/List")) (by decide)
 have F_detailMessage_b1 : Fld Z h1 b1 "java/lang/Throwable" "detailMessage" "Ljava/lang/String;" .null := D1 (Or.inl (hwd 212 rfl)) (ty := (.object "java/lang/String")) (by decide)
 have F_backtrace_b1 : Fld Z h1 b1 "java/lang/Throwable" "backtrace" "Ljava/lang/Object;" .null := D1 (Or.inl (hwd 213 rfl)) (ty := (.object "java/lang/Object")) (by decide)
 have F_depth_b1 : Fld Z h1 b1 "java/lang/Throwable" "depth" "I" (.int 0) := D1 (Or.inl (hwd 214 rfl)) (ty := .int) (by decide)
 refine qb st1 ?_
 show qG p e below _ (T1.setTop (mkF m 3 #[vR a0] [(.ref b1)]))
 refine qb (fun _ k => XS.dup X1.here hx rfl (own_e hby d1 1 rfl) rfl rfl k) ?_
 obtain ⟨T2, h2, X2, e2, E2, A2, D2, -, st2⟩ := newO X1 hx hZ hown (hwd 16 rfl) (hwd 17 rfl) (hwd 18 rfl) e1 (g := (mkF m 4 #[vR a0] [(.ref b1), (.ref b1)])) rfl (own_e hby d1 2 rfl) (by decide) (by decide)
 obtain ⟨b2, g2⟩ : ∃ z, z = h1.size := ⟨_, rfl⟩
 have ge_b2 : n0 ≤ b2 := ql Z1 (Nat.le_of_eq g2.symm)
 have sz_b2 := ql K1.1 (Nat.le_of_eq g2.symm)
 have R2 : CHr Z consts_1 s.vm h1 s.vm h2 := CHr.ext E2 CR1.1
 have CR2 : CHr Z consts_1 s.vm h0 s.vm h2 := CR1.trans R2
 have hk2 : kc0 ≤ h2.size := ql hk1 E2.1
 have S_b2 : Safe Z consts_1 s.vm h2 b2 := Safe.ext E2 CR1.1 (Safe.new (Nat.le_of_eq g2.symm))
 have K2 : Keep h0 h2 [] := K1.ext E2
 have Z2 := ql Z1 E2.1
 rw [← g2] at A2 D2 st2
 have lt_b2 := A2.lt
 have F_value_b2 : Fld Z h2 b2 cA "value" "[B" .null := D2 (Or.inl (hwd 33 rfl)) (ty := (.array .byte)) (by decide)
 have F_coder_b2 : Fld Z h2 b2 cA "coder" "B" (.int 0) := D2 (Or.inl (hwd 35 rfl)) (ty := .byte) (by decide)
 have F_count_b2 : Fld Z h2 b2 cA "count" "I" (.int 0) := D2 (Or.inl (hwd 60 rfl)) (ty := .int) (by decide)
 have F_maybeLatin1_b2 : Fld Z h2 b2 cA "maybeLatin1" "Z" (.int 0) := D2 (Or.inl (hwd 299 rfl)) (ty := .boolean) (by decide)
 refine qb st2 ?_
 show qG p e below _ (T2.setTop (mkF m 7 #[vR a0] [(.ref b2), (.ref b1), (.ref b1)]))
 refine qb (fun _ k => XS.dup X2.here hx rfl (own_e hby d1 3 rfl) rfl rfl k) ?_
 have F3 := ((P_S_CS.ext E1).ext E2)
 obtain ⟨_, T4, Lc4, X4, hQ4, st4⟩ := own_cI X2 hx hZ hown hml (rmsbi l Z A0 hw [] f_CS b2 (.null) (0 : Int32) (0 : Int32) (0 : Int32) h2 n0 Z2 A2 F3 hn_CS F_value_b2 F_coder_b2 F_count_b2 F_maybeLatin1_b2 ge_b2) (hwd 19 rfl) (hwd 20 rfl) (hwd 18 rfl) (hwd 21 rfl) (by decide) pd_19 e2 rfl (g := (mkF m 8 #[vR a0] [(.ref b2), (.ref b2), (.ref b1), (.ref b1)])) (rest := [(.ref b2), (.ref b1), (.ref b1)]) rfl rfl rfl rfl (own_e hby d1 4 rfl) rfl
 obtain ⟨b5, b6, rfl, Nq4, Kq4, F7, F8, F9, F10, F11, hp12, hp13, F14, F15⟩ := hQ4
 have N4 := Fr.app N0 Nq4
 have R4 : CHr Z consts_1 s.vm h2 s.vm T4.heap := CHr.keep Kq4 ((allS (Safe.exa hZ.alike A2 (by decide) (by decide)) all0)) CR2.1
 have CR4 : CHr Z consts_1 s.vm h0 s.vm T4.heap := CR2.trans R4
 have hk4 : kc0 ≤ T4.heap.size := ql hk2 Kq4.1
 have K4 : Keep h0 T4.heap [] := K2.trans Kq4 ((allS (Or.inr sz_b2) all0))
 have Z4 := ql Z2 Kq4.1
 have sz_b5 := ql K2.1 hp13
 have S_b5 : Safe Z consts_1 s.vm T4.heap b5 := Safe.keep Kq4 ((allS (Safe.exa hZ.alike A2 (by decide) (by decide)) all0)) CR2.1 (Safe.new hp13)
 have lt_b5 := F14.lt
 refine qb st4 ?_
 show qG p e below _ (T4.setTop (mkF m 11 #[vR a0] [(.ref b2), (.ref b1), (.ref b1)]))
 refine qb (fun _ k => XS.aloadN X4.here hx rfl (own_e hby d1 5 rfl) rfl rfl k) ?_
 have F16 := (((P_E_a0.ext E1).ext E2).keep Kq4)
 have F17 := (((P_F_a0_coder.ext E1).ext E2).keep Kq4 (ninS (qn ((P_E_a0.ext E1)).lt (Nat.le_of_eq g2.symm)) nin0))
 have F18 := (((P_F_a0_value.ext E1).ext E2).keep Kq4 (ninS (qn ((P_E_a0.ext E1)).lt (Nat.le_of_eq g2.symm)) nin0))
 have F19 := (((P_V_t_a0.ext E1).ext E2).keep Kq4 (ninS (qn ((P_V_t_a0.ext E1)).lt (Nat.le_of_eq g2.symm)) nin0))
 have F20 := qk F3 Kq4 (allS (qx A2) all0)
 have F21 := qk ((P_S_SF.ext E1).ext E2) Kq4 (allS (qx A2) all0)
 obtain ⟨_, T22, Lc22, X22, hQ22, st22⟩ := own_cV X4 hx hZ hown hml (rma01N l Z A0 hw [] b5 b6 (16 : Int32) (fun _ => (0 : Int32)) t_a0 k_t_a0 n_t_a0 fn_t_a0 f_CS f_SF b2 a0 (0 : Int32) T4.heap n0 Z4 F7 F9 F8 F10 F15 F16 F17 F18 F19 F20 hn_CS F21 hr_f_SF F11 hp_3 (show ¬ ((16 : Int32) < (0 : Int32)) by decide) (show (16 : Int32) < (1073741823 : Int32) by decide) (show ¬ ((32 : Int32) < (0 : Int32)) by decide) (show 32 ≤ 96 by decide) (show ¬ ((16 : Int32) < (0 : Int32)) by decide) (show ¬ ((16 : Int32) < (0 : Int32)) by decide) ge_b2 hp_4 hp_5 hp_6) (hwd 36 rfl) (hwd 38 rfl) (hwd 18 rfl) (hwd 40 rfl) (by decide) pd_36 rfl (hwd 37 rfl) (hwd 39 rfl) F7 (g := (mkF m 12 #[vR a0] [(.ref a0), (.ref b2), (.ref b1), (.ref b1)])) (rest := [(.ref b1), (.ref b1)]) rfl rfl rfl rfl (own_e hby d1 6 rfl) rfl
 obtain ⟨b23, b24, rfl, Nq22, Kq22, F25, F26, F27, F28, F29, hp30, hp31, F32, F33⟩ := hQ22
 have N22 := Fr.app N4 Nq22
 have R22 : CHr Z consts_1 s.vm T4.heap s.vm T22.heap := CHr.keep Kq22 ((allS (Safe.exa hZ.alike F7 (by decide) (by decide)) all0)) CR4.1
 have CR22 : CHr Z consts_1 s.vm h0 s.vm T22.heap := CR4.trans R22
 have hk22 : kc0 ≤ T22.heap.size := ql hk4 Kq22.1
 have K22 : Keep h0 T22.heap [] := K4.trans Kq22 ((allS (Or.inr sz_b2) all0))
 have Z22 := ql Z4 Kq22.1
 have sz_b23 := ql K4.1 hp31
 have S_b23 : Safe Z consts_1 s.vm T22.heap b23 := Safe.keep Kq22 ((allS (Safe.exa hZ.alike F7 (by decide) (by decide)) all0)) CR4.1 (Safe.new hp31)
 have lt_b23 := F32.lt
 refine qb st22 ?_
 show qG p e below _ (T22.setTop (mkF m 15 #[vR a0] [(.ref b2), (.ref b1), (.ref b1)]))
 obtain ⟨b34, T34, h34, kc34, t34, kk34, X34, e34, E34, hS, hk34, hZ, hown, A34, C34, F34, V34, lt34, ltb34, R34, Li34, -, st34⟩ := ldcCH X22 hx hZ hown (hwd 86 rfl) hwS rfl hS hk22 hEL (by decide) CR22.1 (vs := (own_LIT : List Int32).map Value.int) (z := (45 : Int32)) ⟨by decide, by decide⟩ (by decide) (by decide) (g := (mkF m 15 #[vR a0] [(.ref b2), (.ref b1), (.ref b1)])) rfl (own_e hby d1 7 rfl) (n := 180) (by decide) (by decide) (by decide) (by decide)
 have V34' : qA Z h34 t34 kk34 .byte (45 : Int32) (fun i => .int ((own_li own_LIT) i)) := own_arfLi V34
 have CR34 : CHr Z consts_1 s.vm h0 T34.vm h34 := CR22.trans R34
 have K34 : Keep h0 h34 [] := K22.ext E34
 have Z34 := ql Z22 E34.1
 refine qb st34 ?_
 have F35 := (F25.ext E34)
 have F36 := (F26.ext E34)
 have F37 := (F27.ext E34)
 have F38 := (F28.ext E34)
 have F39 := (F33.ext E34)
 have F40 := ((qk F20 Kq22 (allS (qx F7) all0)).ext E34)
 have F41 := ((qk F21 Kq22 (allS (qx F7) all0)).ext E34)
 have F42 := ((qk (qk ((P_S_UD.ext E1).ext E2) Kq4 (allS (qx A2) all0)) Kq22 (allS (qx F7) all0)).ext E34)
 have F43 := ((qk (qk ((P_S_HI_BYTE_SHIFT.ext E1).ext E2) Kq4 (allS (qx A2) all0)) Kq22 (allS (qx F7) all0)).ext E34)
 have F44 := ((qk (qk ((P_S_LO_BYTE_SHIFT.ext E1).ext E2) Kq4 (allS (qx A2) all0)) Kq22 (allS (qx F7) all0)).ext E34)
 have F45 := (F29.ext E34)
 obtain ⟨_, T46, Lc46, X46, hQ46, st46⟩ := own_cV X34 hx hZ hown hml (rma10G l Z A0 hw [] b23 (n_t_a0 >>> ((1 : Int32) &&& 31)) b24 (32 : Int32) (own_cp fn_t_a0 0 (fun _ => (0 : Int32)) 0 (n_t_a0).toNatClampNeg) t34 kk34 (45 : Int32) (own_li own_LIT) f_CS f_SF b2 b34 (0 : Int32) h34 n0 Z34 F35 F36 F37 F38 F39 A34 C34 F34 V34' F40 hn_CS F41 hr_f_SF F42 F43 F44 F45 hp_7 hp_8 hp_9 hp_10 hp_11 hp_12 hp_13 hp_14 hp_15 (show ¬ (32 : Int32) < 0 by decide) (show 0 + 32 ≤ 32 by decide) hp_16 ge_b2 hp_17 hp_18 hp_19) (hwd 36 rfl) (hwd 38 rfl) (hwd 18 rfl) (hwd 40 rfl) (by decide) pd_36 e34 (hwd 37 rfl) (hwd 39 rfl) F35 (g := (mkF m 17 #[vR a0] [(.ref b34), (.ref b2), (.ref b1), (.ref b1)])) (rest := [(.ref b1), (.ref b1)]) rfl rfl rfl rfl (own_e hby d1 8 rfl) rfl
 obtain ⟨b47, b48, b49, rfl, Nq46, Kq46, hp50, hp51, F52, F53, F54, F55, F56, F57, F58, hp59⟩ := hQ46
 have N46 := Fr.app N22 Nq46
 have R46 : CHr Z consts_1 T34.vm h34 T34.vm T46.heap := CHr.keep Kq46 ((allS (Safe.exa hZ.alike F35 (by decide) (by decide)) all0)) CR34.1
 have CR46 : CHr Z consts_1 s.vm h0 T34.vm T46.heap := CR34.trans R46
 have hk46 : kc34 ≤ T46.heap.size := ql hk34 Kq46.1
 have K46 : Keep h0 T46.heap [] := K34.trans Kq46 ((allS (Or.inr sz_b2) all0))
 have Z46 := ql Z34 Kq46.1
 have sz_b47 := ql K34.1 hp51
 have S_b47 : Safe Z consts_1 T34.vm T46.heap b47 := Safe.keep Kq46 ((allS (Safe.exa hZ.alike F35 (by decide) (by decide)) all0)) CR34.1 (Safe.new hp51)
 have lt_b47 := F57.lt
 refine qb st46 ?_
 show qG p e below _ (T46.setTop (mkF m 20 #[vR a0] [(.ref b2), (.ref b1), (.ref b1)]))
 have F60 := qk F40 Kq46 (allS (qx F35) all0)
 obtain ⟨_, T61, Lc61, X61, hQ61, st61⟩ := own_cV X46 hx hZ hown hml (rmtosU l Z A0 hw [] b47 ((n_t_a0 >>> ((1 : Int32) &&& 31)) + (45 : Int32)) b48 ((((32 : Int32) + ((((n_t_a0 >>> ((1 : Int32) &&& 31)) + (45 : Int32)) <<< ((1 : Int32) &&& 31)) - (32 : Int32))) >>> ((1 : Int32) &&& 31)) <<< ((1 : Int32) &&& 31)) b49 f_CS b2 T46.heap n0 Z46 F52 F53 F54 F55 F58 F57 F56 F60 hn_CS hp_20 hp_14) (hwd 110 rfl) (hwd 112 rfl) (hwd 18 rfl) (hwd 114 rfl) (by decide) pd_110 rfl (hwd 111 rfl) (hwd 113 rfl) F52 (g := (mkF m 20 #[vR a0] [(.ref b2), (.ref b1), (.ref b1)])) (rest := [(.ref b1), (.ref b1)]) rfl rfl rfl rfl (own_e hby d1 9 rfl) rfl
 obtain ⟨b62, b63, rfl, Nq61, Kq61, hp64, hp65, F66, F67, F68, hp69, hp70, F71, F72, hp73⟩ := hQ61
 have N61 := Fr.app N46 Nq61
 have R61 : CHr Z consts_1 T34.vm T46.heap T34.vm T61.heap := CHr.keep Kq61 (all0) CR46.1
 have CR61 : CHr Z consts_1 s.vm h0 T34.vm T61.heap := CR46.trans R61
 have hk61 : kc34 ≤ T61.heap.size := ql hk46 Kq61.1
 have K61 : Keep h0 T61.heap [] := K46.trans Kq61 (all0)
 have Z61 := ql Z46 Kq61.1
 have sz_b62 := ql K46.1 hp65
 have S_b62 : Safe Z consts_1 T34.vm T61.heap b62 := Safe.keep Kq61 (all0) CR46.1 (Safe.new hp65)
 have lt_b62 := F66.lt
 have sz_b63 := ql K46.1 hp70
 have S_b63 : Safe Z consts_1 T34.vm T61.heap b63 := Safe.keep Kq61 (all0) CR46.1 (Safe.new hp70)
 have lt_b63 := F71.lt
 refine qb st61 ?_
 show qG p e below _ (T61.setTop (mkF m 23 #[vR a0] [(.ref b62), (.ref b1), (.ref b1)]))
 have F74 := ((((((A1.ext E2).keep Kq4).keep Kq22).ext E34).keep Kq46).keep Kq61)
 have F75 := (Unt.keep Kq61 nin0 (Unt.keep Kq46 (ninS (qn A1.lt (Nat.le_of_eq g2.symm)) nin0) ((Unt.keep Kq22 (ninS (qn A1.lt (Nat.le_of_eq g2.symm)) nin0) (Unt.keep Kq4 (ninS (qn A1.lt (Nat.le_of_eq g2.symm)) nin0) (U1'.ext E2))).ext E34)))
 have F76 := ((((((F_backtrace_b1.ext E2).keep Kq4 (ninS (qn A1.lt (Nat.le_of_eq g2.symm)) nin0)).keep Kq22 (ninS (qn A1.lt (Nat.le_of_eq g2.symm)) nin0)).ext E34).keep Kq46 (ninS (qn A1.lt (Nat.le_of_eq g2.symm)) nin0)).keep Kq61 nin0)
 have F77 := qk (qk ((qk (qk ((P_S_US.ext E1).ext E2) Kq4 (allS (qx A2) all0)) Kq22 (allS (qx F7) all0)).ext E34) Kq46 (allS (qx F35) all0)) Kq61 all0
 have F78 := qk (qk ((qk (qk ((P_S_SS.ext E1).ext E2) Kq4 (allS (qx A2) all0)) Kq22 (allS (qx F7) all0)).ext E34) Kq46 (allS (qx F35) all0)) Kq61 all0
 have F79 := (ThS.keep Kq61 ns0 (ThS.keep Kq46 (nsS (qx F35) ns0) ((ThS.keep Kq22 (nsS (qx F7) ns0) (ThS.keep Kq4 (nsS (qx A2) ns0) ((P_T.ext E1).ext E2))).ext E34)))
 have F80 := ((((((F_cause_b1.ext E2).keep Kq4 (ninS (qn A1.lt (Nat.le_of_eq g2.symm)) nin0)).keep Kq22 (ninS (qn A1.lt (Nat.le_of_eq g2.symm)) nin0)).ext E34).keep Kq46 (ninS (qn A1.lt (Nat.le_of_eq g2.symm)) nin0)).keep Kq61 nin0)
 have F81 := ((((((F_stackTrace_b1.ext E2).keep Kq4 (ninS (qn A1.lt (Nat.le_of_eq g2.symm)) nin0)).keep Kq22 (ninS (qn A1.lt (Nat.le_of_eq g2.symm)) nin0)).ext E34).keep Kq46 (ninS (qn A1.lt (Nat.le_of_eq g2.symm)) nin0)).keep Kq61 nin0)
 have F82 := ((((((F_suppressedExceptions_b1.ext E2).keep Kq4 (ninS (qn A1.lt (Nat.le_of_eq g2.symm)) nin0)).keep Kq22 (ninS (qn A1.lt (Nat.le_of_eq g2.symm)) nin0)).ext E34).keep Kq46 (ninS (qn A1.lt (Nat.le_of_eq g2.symm)) nin0)).keep Kq61 nin0)
 have F83 := ((((((F_detailMessage_b1.ext E2).keep Kq4 (ninS (qn A1.lt (Nat.le_of_eq g2.symm)) nin0)).keep Kq22 (ninS (qn A1.lt (Nat.le_of_eq g2.symm)) nin0)).ext E34).keep Kq46 (ninS (qn A1.lt (Nat.le_of_eq g2.symm)) nin0)).keep Kq61 nin0)
 have F84 := ((((((F_depth_b1.ext E2).keep Kq4 (ninS (qn A1.lt (Nat.le_of_eq g2.symm)) nin0)).keep Kq22 (ninS (qn A1.lt (Nat.le_of_eq g2.symm)) nin0)).ext E34).keep Kq46 (ninS (qn A1.lt (Nat.le_of_eq g2.symm)) nin0)).keep Kq61 nin0)
 obtain ⟨_, _, ⟨T85, L85, k85, n85⟩, -, X85, ⟨Lc85, hQ85, l85, y85, z85⟩, st85⟩ := X61.specialBack hx (y := (⟨"com/example/model_check_sql/modelchecksql/model/ModelFormatException", "<init>", "(Ljava/lang/String;)V"⟩ : MethodName)) rfl hown (mvT hZ (hwd 154 rfl)) (mvT hZ (hwd 155 rfl)) (mvT hZ (hwd 156 rfl)) (by decide) (backOfKL (W := 1) (rm26 l Z A0 hw [] f_US f_SS b1 b62 (.null) (.null) (.null) (.null) (0 : Int32) T61.heap n0 Z61 F74 F75 F76 F77 F78 hr_f_SS F79 F80 F81 F82 rfl F83 F84 ge_b1 hl0) hZ (hwd 156 rfl) (hwd 15 rfl) (by decide) (by decide) (hK.1.alikeC hS.1.alike) (hK.2.alikeC hS.1.alike)) (g := (mkF m 23 #[vR a0] [(.ref b62), (.ref b1), (.ref b1)])) rfl (by rw [hml]; rfl) (Steps.refl _) (a := b1) (argsL := [(.ref b62)]) (rest := [(.ref b1)]) (lenOf pd_71 rfl) rfl (by show 2 * 0 + _ ≤ _; exact Nat.le_of_eq rfl) (own_e hby d1 10 rfl) (fun _ _ => ⟨rfl, rfl, (by decide : 9 + 1 ≤ _), (by decide : 502 + 2752 ≤ _)⟩)
 dsimp only [Pt.U, Pt.locs, Pt.cells, Pt.slots] at X85 l85 y85 z85 st85 hQ85
 subst l85 y85 z85
 obtain ⟨rfl, Nq85, Kq85, F86, F87⟩ := hQ85
 have N85 := Fr.app N61 Nq85
 have R85 : CHr Z consts_1 T34.vm T61.heap T34.vm T85.heap := CHr.keep Kq85 ((allS (Safe.exa hZ.alike F74 (by decide) (by decide)) all0)) CR61.1
 have CR85 : CHr Z consts_1 s.vm h0 T34.vm T85.heap := CR61.trans R85
 have hk85 : kc34 ≤ T85.heap.size := ql hk61 Kq85.1
 have K85 : Keep h0 T85.heap [] := K61.trans Kq85 ((allS (Or.inr sz_b1) all0))
 have Z85 := ql Z61 Kq85.1
 refine qb (fun _ k => st85.trans k) ?_
 show qG p e below _ (T85.setTop (mkF m 26 #[vR a0] [(.ref b1)]))
 have F88 := (F66.keep Kq85)
 have F89 := (F67.keep Kq85 (ninS (qm ((((((A1.ext E2).keep Kq4).keep Kq22).ext E34).keep Kq46)).lt hp65) nin0))
 have F90 := (F68.keep Kq85 (ninS (qm ((((((A1.ext E2).keep Kq4).keep Kq22).ext E34).keep Kq46)).lt hp65) nin0))
 have F91 := (F71.keep Kq85 (ninS (qm ((((((A1.ext E2).keep Kq4).keep Kq22).ext E34).keep Kq46)).lt hp70) nin0))
 have F92 := (F72.keep Kq85)
 exact own_retRW X85 hx hS hk85 hZ hEL hh CR85 Bd.returns (by decide) rfl (own_e hby d1 11 rfl) hlk rfl ⟨b1, b62, b63, b48, b49, rfl, N85, K85, ge_b1, sz_b1, hp64, sz_b62, hp69, sz_b63, (qn ((((((A1.ext E2).keep Kq4).keep Kq22).ext E34).keep Kq46)).lt hp65), (qn ((((((A1.ext E2).keep Kq4).keep Kq22).ext E34).keep Kq46)).lt hp70), hp73, F86, F87, F88, F89, F90, F91, F92, ⟨b49, hp59, rfl⟩⟩ (by decide) (by decide)
theorem d32 : own_ds jdk_78_method_6_code [(0, .aload_n 0, 1), (1, .getfield 31, 3), (4, .areturn, 1)] = true := by decide +kernel
theorem ef_getm (m : MethodId) (a0 : Addr) : entryFrame m #[(.ref a0)] 1 = mkF m 0 #[vR a0] [] := rfl
def Qgetm (Z : State) (a0 f_a0_detailMessage : Addr) (h0 : Heap) (n0 : Nat) (v : Option Value) (h : Heap) (L : List Loc) : Prop := v = some (.ref f_a0_detailMessage) ∧ Fr n0 L ∧ h = h0
theorem rmgetm (l : Launch) (Z : State) (A0 : Array Value) (hw : ∀ d ∈ tables_1, d.before A0 Z = true) (ws : List Jvm.Cond) (a0 f_a0_detailMessage : Addr) (h0 : Heap) (n0 : Nat) (Z0 : n0 ≤ h0.size) (P_F_a0_detailMessage : Fld Z h0 a0 "java/lang/Throwable" "detailMessage" "Ljava/lang/String;" (.ref f_a0_detailMessage)) :
  qM l Z (⟨"java/lang/Throwable", "getMessage", "()Ljava/lang/String;"⟩ : MethodName) jdk_78_method_6_code 1 (some (.object "java/lang/String")) ws ({ frames := 0, cells := 0, slots := 0, locals := 0 } : Room) #[(.ref a0)] h0 (Qgetm Z a0 f_a0_detailMessage h0 n0) 0 0 := own_enter (plainFor_of_name pn_30) (fun m => ef_getm m a0) fun p e s m below meth c s₁ hx hby hml hlk hown hnm X0 e0 hZ hrt => by
 have hwd := qw hw
 have N0 := Fr.nil n0
 show qG p e below _ (s₁.setTop (mkF m 0 #[vR a0] []))
 refine qb (fun _ k => XS.aloadN X0.here hx rfl (own_e hby d32 0 rfl) rfl rfl k) ?_
 obtain ⟨T1, X1, e1, st1⟩ := getF X0 hx hZ hown (host := "") (Or.inl (hwd 216 rfl)) Via.refl e0 P_F_a0_detailMessage (g := (mkF m 1 #[vR a0] [(.ref a0)])) rfl rfl (own_e hby d32 1 rfl)
 refine qb st1 ?_
 exact own_retR X1 hx hrt (by decide) rfl (own_e hby d32 2 rfl) hlk e1 ⟨rfl, N0, rfl⟩ (by decide) (by decide)
theorem d34 : own_ds jdk_43_method_13_code [(0, .aload_n 0, 1), (1, .arraylength, 1), (2, .aload_n 1, 1), (3, .arraylength, 1), (4, .if_icmp .ne 30, 3), (7, .iconst 0, 1), (8, .istore_n 2, 1), (9, .iload_n 2, 1), (10, .aload_n 0, 1), (11, .arraylength, 1), (12, .if_icmp .ge 20, 3), (15, .aload_n 0, 1), (16, .iload_n 2, 1), (17, .baload, 1), (18, .aload_n 1, 1), (19, .iload_n 2, 1), (20, .baload, 1), (21, .if_icmp .eq 5, 3), (26, .iinc 2 1, 3), (29, .goto (-20), 3), (32, .iconst 1, 1), (33, .ireturn, 1)] = true := by decide +kernel
theorem ef_leq (m : MethodId) (a0 a1 : Addr) : entryFrame m #[(.ref a0), (.ref a1)] 3 = mkF m 0 #[vR a0, vR a1, .unset] [] := rfl
theorem ob_leq_35 (n_a0 : Int32) (fn_a0 fn_a1 : Nat → Int32) (z13 : Int32) (hE : ∀ j, j < (n_a0).toNatClampNeg → fn_a0 j = fn_a1 j) (hi16 : own_eqI n_a0 z13) (c19 : z13 < n_a0) : (¬ z13 < 0) ∧ z13 < n_a0 := by
  exact own_eqN hi16 c19
theorem ob_leq_36 (n_a0 : Int32) (fn_a0 fn_a1 : Nat → Int32) (z13 : Int32) (hE : ∀ j, j < (n_a0).toNatClampNeg → fn_a0 j = fn_a1 j) (hi16 : own_eqI n_a0 z13) (c19 : z13 < n_a0) : (¬ z13 < 0) ∧ z13 < n_a0 := by
  exact own_eqN hi16 c19
theorem ob_leq_37 (n_a0 : Int32) (fn_a0 fn_a1 : Nat → Int32) (z13 : Int32) (hE : ∀ j, j < (n_a0).toNatClampNeg → fn_a0 j = fn_a1 j) (hi16 : own_eqI n_a0 z13) (c19 : z13 < n_a0) : (fn_a0 (z13).toNatClampNeg) = (fn_a1 (z13).toNatClampNeg) := by
  exact hE _ (own_eqJ hi16 c19)
theorem ob_leq_38 (n_a0 : Int32) (fn_a0 fn_a1 : Nat → Int32) (z13 : Int32) (hE : ∀ j, j < (n_a0).toNatClampNeg → fn_a0 j = fn_a1 j) (hi16 : own_eqI n_a0 z13) (c19 : z13 < n_a0) : (n_a0).toNatClampNeg - ((z13 + (1 : Int32))).toNatClampNeg < (n_a0).toNatClampNeg - (z13).toNatClampNeg := by
  exact own_eqL hi16 c19
theorem ob_leq_39 (n_a0 : Int32) (fn_a0 fn_a1 : Nat → Int32) (z13 : Int32) (hE : ∀ j, j < (n_a0).toNatClampNeg → fn_a0 j = fn_a1 j) (hi16 : own_eqI n_a0 z13) (c19 : z13 < n_a0) : own_eqI n_a0 (z13 + (1 : Int32)) := by
  exact own_eqB hi16 c19
theorem ob_leq_40 (n_a0 : Int32) (fn_a0 fn_a1 : Nat → Int32) (hE : ∀ j, j < (n_a0).toNatClampNeg → fn_a0 j = fn_a1 j) : own_eqI n_a0 (0 : Int32) := by
  exact own_eqS
def Qleq (Z : State) (k_a0 : ClassId) (n_a0 : Int32) (fn_a0 : Nat → Int32) (k_a1 : ClassId) (fn_a1 : Nat → Int32) (a0 a1 : Addr) (h0 : Heap) (n0 : Nat) (v : Option Value) (h : Heap) (L : List Loc) : Prop := v = some (.int 1) ∧ Fr n0 L ∧ Keep h0 h []
theorem rmleq (l : Launch) (Z : State) (A0 : Array Value) (hw : ∀ d ∈ tables_1, d.before A0 Z = true) (ws : List Jvm.Cond) (k_a0 : ClassId) (n_a0 : Int32) (fn_a0 : Nat → Int32) (k_a1 : ClassId) (fn_a1 : Nat → Int32) (a0 a1 : Addr) (h0 : Heap) (n0 : Nat) (Z0 : n0 ≤ h0.size) (P_V_a0 : qA Z h0 a0 k_a0 .byte n_a0 (fun i => .int (fn_a0 i))) (P_V_a1 : qA Z h0 a1 k_a1 .byte n_a0 (fun i => .int (fn_a1 i))) (hE : ∀ j, j < (n_a0).toNatClampNeg → fn_a0 j = fn_a1 j) (ne_a0_a1 : a0 ≠ a1) :
  qM l Z (⟨"java/lang/StringLatin1", "equals", "([B[B)Z"⟩ : MethodName) jdk_43_method_13_code 3 (some .boolean) ws ({ frames := 0, cells := 0, slots := 0, locals := 0 } : Room) #[(.ref a0), (.ref a1)] h0 (Qleq Z k_a0 n_a0 fn_a0 k_a1 fn_a1 a0 a1 h0 n0) 0 0 := own_enter (plainFor_of_name pn_l1tb) (fun m => ef_leq m a0 a1) fun p e s m below meth c s₁ hx hby hml hlk hown hnm X0 e0 hZ hrt => by
 have hwd := qw hw
 have N0 := Fr.nil n0
 show qG p e below _ (s₁.setTop (mkF m 0 #[vR a0, vR a1, .unset] []))
 refine qb (fun _ k => XS.aloadN X0.here hx rfl (own_e hby d34 0 rfl) rfl rfl k) ?_
 obtain ⟨cl1, Ar1, qq1, S1, M1, H1, G1⟩ := id P_V_a0
 refine qb (fun t k => X0.arraylength hx (by rw [e0]; exact Ar1.1) (State.isArrayOf_alike hZ.alike Ar1.2.1) (g := (mkF m 1 #[vR a0, vR a1, .unset] [(.ref a0)])) rfl rfl (own_e hby d34 1 rfl) _ k) ?_
 rw [len_of S1 M1]
 show qG p e below _ (s₁.setTop (mkF m 2 #[vR a0, vR a1, .unset] [(.int n_a0)]))
 refine qb (fun _ k => XS.aloadN X0.here hx rfl (own_e hby d34 2 rfl) rfl rfl k) ?_
 obtain ⟨cl2, Ar2, qq2, S2, M2, H2, G2⟩ := id P_V_a1
 refine qb (fun t k => X0.arraylength hx (by rw [e0]; exact Ar2.1) (State.isArrayOf_alike hZ.alike Ar2.2.1) (g := (mkF m 3 #[vR a0, vR a1, .unset] [(.ref a1), (.int n_a0)])) rfl rfl (own_e hby d34 3 rfl) _ k) ?_
 rw [len_of S2 M2]
 show qG p e below _ (s₁.setTop (mkF m 4 #[vR a0, vR a1, .unset] [(.int n_a0), (.int n_a0)]))
 refine qb (fun _ k => XS.icmpNo X0.here hx rfl (own_e hby d34 4 rfl) rfl (teq (rfl : n_a0 = n_a0)).2 k) ?_
 show qG p e below _ (s₁.setTop (mkF m 7 #[vR a0, vR a1, .unset] []))
 refine qb (fun _ k => XS.iconst X0.here hx rfl (own_e hby d34 5 rfl) k) ?_
 refine qb (fun _ k => XS.istoreN X0.here hx rfl (own_e hby d34 6 rfl) rfl (l' := #[vR a0, vR a1, vI 0]) rfl k) ?_
 show qG p e below _ (s₁.setTop (mkF m 9 #[vR a0, vR a1, vI 0] []))
 have LP11 : ∀ (fu12 : Nat) (T3 : State) (L4 : List Loc) (h5 : Heap) (z13 : Int32), fu12 = (n_a0).toNatClampNeg - (z13).toNatClampNeg → Stand p l e ({ frames := 0, cells := 0, slots := 0, locals := 0 } : Room) s m #[(.ref a0), (.ref a1)] below meth c T3 L4 0 0 → T3.heap = h5 → Fr n0 L4 → Keep h0 h5 [] → n0 ≤ h5.size → qA Z h5 a0 k_a0 .byte n_a0 (fun i => .int (fn_a0 i)) → qA Z h5 a1 k_a1 .byte n_a0 (fun i => .int (fn_a1 i)) → (own_eqI n_a0 z13) → qG p e below (own_Fin s 0 0 (Qleq Z k_a0 n_a0 fn_a0 k_a1 fn_a1 a0 a1 h0 n0)) (T3.setTop (mkF m 9 #[vR a0, vR a1, vI z13] [])) := by
  intro fu12
  induction fu12 using Nat.strongRecOn with
  | _ fu12 ih =>
   intro T3 L4 h5 z13 hfu17 X6 e7 N8 K9 Z10 F14 F15 hi16
   refine qb (fun _ k => XS.iloadN X6.here hx rfl (own_e hby d34 7 rfl) rfl k) ?_
   refine qb (fun _ k => XS.aloadN X6.here hx rfl (own_e hby d34 8 rfl) rfl rfl k) ?_
   obtain ⟨cl18, Ar18, qq18, S18, M18, H18, G18⟩ := id F14
   refine qb (fun t k => X6.arraylength hx (by rw [e7]; exact Ar18.1) (State.isArrayOf_alike hZ.alike Ar18.2.1) (g := (mkF m 11 #[vR a0, vR a1, vI z13] [(.ref a0), (.int z13)])) rfl rfl (own_e hby d34 9 rfl) _ k) ?_
   rw [len_of S18 M18]
   show qG p e below _ (T3.setTop (mkF m 12 #[vR a0, vR a1, vI z13] [(.int n_a0), (.int z13)]))
   by_cases c19 : z13 < n_a0
   ·skip
    refine qb (fun _ k => XS.icmpNo X6.here hx rfl (own_e hby d34 10 rfl) rfl (tlt c19).2.1 k) ?_
    show qG p e below _ (T3.setTop (mkF m 15 #[vR a0, vR a1, vI z13] []))
    refine qb (fun _ k => XS.aloadN X6.here hx rfl (own_e hby d34 11 rfl) rfl rfl k) ?_
    refine qb (fun _ k => XS.iloadN X6.here hx rfl (own_e hby d34 12 rfl) rfl k) ?_
    obtain ⟨cl20, Ar20, qq20, S20, M20, H20, G20⟩ := id F14
    have hin20 : ¬ (z13 < 0 ∨ cl20.slots.size ≤ (z13).toNatClampNeg) := inb_of S20 (ob_leq_35 n_a0 fn_a0 fn_a1 z13 hE hi16 c19)
    refine qb (fun t k => X6.baloadBytes hx (j := z13) (v := (.int (fn_a0 (z13).toNatClampNeg))) (by rw [e7]; exact Ar20.1) (State.isArrayOf_alike hZ.alike Ar20.2.1) Ar20.2.2 hin20 (H20 _ (Nat.lt_of_not_le fun y => hin20 (Or.inr y))) (g := (mkF m 17 #[vR a0, vR a1, vI z13] [(.int z13), (.ref a0)])) rfl rfl (own_e hby d34 13 rfl) _ k) ?_
    refine qb (fun _ k => XS.aloadN X6.here hx rfl (own_e hby d34 14 rfl) rfl rfl k) ?_
    refine qb (fun _ k => XS.iloadN X6.here hx rfl (own_e hby d34 15 rfl) rfl k) ?_
    obtain ⟨cl21, Ar21, qq21, S21, M21, H21, G21⟩ := id F15
    have hin21 : ¬ (z13 < 0 ∨ cl21.slots.size ≤ (z13).toNatClampNeg) := inb_of S21 (ob_leq_36 n_a0 fn_a0 fn_a1 z13 hE hi16 c19)
    refine qb (fun t k => X6.baloadBytes hx (j := z13) (v := (.int (fn_a1 (z13).toNatClampNeg))) (by rw [e7]; exact Ar21.1) (State.isArrayOf_alike hZ.alike Ar21.2.1) Ar21.2.2 hin21 (H21 _ (Nat.lt_of_not_le fun y => hin21 (Or.inr y))) (g := (mkF m 20 #[vR a0, vR a1, vI z13] [(.int z13), (.ref a1), (.int (fn_a0 (z13).toNatClampNeg))])) rfl rfl (own_e hby d34 16 rfl) _ k) ?_
    have hd22 : (fn_a0 (z13).toNatClampNeg) = (fn_a1 (z13).toNatClampNeg) := (ob_leq_37 n_a0 fn_a0 fn_a1 z13 hE hi16 c19)
    refine qb (fun _ k => XS.icmpYes X6.here hx rfl (pc0 := 21) (pc' := 26) rfl (own_e hby d34 17 rfl) rfl (teq hd22).1 (by decide) (by decide) k) ?_
    show qG p e below _ (T3.setTop (mkF m 26 #[vR a0, vR a1, vI z13] []))
    refine qb (fun _ k => XS.iinc X6.here hx rfl (own_e hby d34 18 rfl) rfl (l' := #[vR a0, vR a1, vI (z13 + (1 : Int32))]) rfl k) ?_
    show qG p e below _ (T3.setTop (mkF m 29 #[vR a0, vR a1, vI (z13 + (1 : Int32))] []))
    refine qb (fun _ k => XS.goto X6.here hx rfl (pc0 := 29) (pc' := 9) rfl (own_e hby d34 19 rfl) (by decide) (by decide) k) ?_
    show qG p e below _ (T3.setTop (mkF m 9 #[vR a0, vR a1, vI (z13 + (1 : Int32))] []))
    exact ih _ (by rw [hfu17]; exact (ob_leq_38 n_a0 fn_a0 fn_a1 z13 hE hi16 c19)) _ _ _ (z13 + (1 : Int32)) rfl X6 e7 N8 K9 Z10 F14 F15 (ob_leq_39 n_a0 fn_a0 fn_a1 z13 hE hi16 c19)
   ·skip
    refine qb (fun _ k => XS.icmpYes X6.here hx rfl (pc0 := 12) (pc' := 32) rfl (own_e hby d34 10 rfl) rfl (flt c19).2.1 (by decide) (by decide) k) ?_
    show qG p e below _ (T3.setTop (mkF m 32 #[vR a0, vR a1, vI z13] []))
    refine qb (fun _ k => XS.iconst X6.here hx rfl (own_e hby d34 20 rfl) k) ?_
    exact own_retN X6 hx (t := .boolean) hrt (by simp) (own_e hby d34 21 rfl) hlk e7 ⟨rfl, N8, K9⟩ (by decide) (by decide)
 exact LP11 _ _ _ _ (0 : Int32) rfl X0 e0 N0 (Keep.refl h0 []) Z0 P_V_a0 P_V_a1 (ob_leq_40 n_a0 fn_a0 fn_a1 hE)
theorem pd_229 : parseMethodDescriptor "([B[B)Z" = some ⟨[(.array .byte), (.array .byte)], some .boolean⟩ := by decide +kernel
theorem d33 : own_ds jdk_42_method_66_code [(0, .aload_n 0, 1), (1, .aload_n 1, 1), (2, .if_acmp .ne 5, 3), (5, .iconst 1, 1), (6, .ireturn, 1), (7, .aload_n 1, 1), (8, .instanceof 10, 3), (11, .ifCond .eq 43, 3), (14, .aload_n 1, 1), (15, .checkcast 10, 3), (18, .astore_n 2, 1), (19, .getstatic 38, 3), (22, .ifCond .eq 14, 3), (25, .aload_n 0, 1), (26, .getfield 15, 3), (29, .aload_n 2, 1), (30, .getfield 15, 3), (33, .if_icmp .ne 21, 3), (36, .aload_n 0, 1), (37, .getfield 9, 3), (40, .aload_n 2, 1), (41, .getfield 9, 3), (44, .invokestatic 541, 3), (47, .ifCond .eq 7, 3), (50, .iconst 1, 1), (51, .goto 4, 3), (55, .ireturn, 1)] = true := by decide +kernel
theorem ef_eqL (m : MethodId) (a0 a1 : Addr) : entryFrame m #[(.ref a0), (.ref a1)] 3 = mkF m 0 #[vR a0, vR a1, .unset] [] := rfl
def QeqL (Z : State) (t_a0 : Addr) (k_t_a0 : ClassId) (n_t_a0 : Int32) (fn_t_a0 : Nat → Int32) (t_a1 : Addr) (k_t_a1 : ClassId) (fn_t_a1 : Nat → Int32) (f_CS : Int32) (a0 a1 : Addr) (h0 : Heap) (n0 : Nat) (v : Option Value) (h : Heap) (L : List Loc) : Prop := v = some (.int 1) ∧ Fr n0 L ∧ Keep h0 h [] ∧ (((a0 = a1)) ∨ ((¬ (a0 = a1))))
theorem rmeqL (l : Launch) (Z : State) (A0 : Array Value) (hw : ∀ d ∈ tables_1, d.before A0 Z = true) (ws : List Jvm.Cond) (t_a0 : Addr) (k_t_a0 : ClassId) (n_t_a0 : Int32) (fn_t_a0 : Nat → Int32) (t_a1 : Addr) (k_t_a1 : ClassId) (fn_t_a1 : Nat → Int32) (f_CS : Int32) (a0 a1 : Addr) (h0 : Heap) (n0 : Nat) (Z0 : n0 ≤ h0.size) (P_E_a0 : Exa Z h0 a0 "java/lang/String") (P_F_a0_coder : Fld Z h0 a0 cS "coder" "B" (.int 0)) (P_F_a0_value : Fld Z h0 a0 cS "value" "[B" (.ref t_a0)) (P_V_t_a0 : qA Z h0 t_a0 k_t_a0 .byte n_t_a0 (fun i => .int (fn_t_a0 i))) (P_E_a1 : Exa Z h0 a1 "java/lang/String") (P_F_a1_coder : Fld Z h0 a1 cS "coder" "B" (.int 0)) (P_F_a1_value : Fld Z h0 a1 cS "value" "[B" (.ref t_a1)) (P_V_t_a1 : qA Z h0 t_a1 k_t_a1 .byte n_t_a0 (fun i => .int (fn_t_a1 i))) (P_S_CS : Sta Z h0 cS "COMPACT_STRINGS" "Z" (.int f_CS)) (hn_CS : ¬ (f_CS = (0 : Int32))) (hE : ∀ j, j < (n_t_a0).toNatClampNeg → fn_t_a0 j = fn_t_a1 j) (ne_t_a0_t_a1 : t_a0 ≠ t_a1) :
  qM l Z (⟨"java/lang/String", "equals", "(Ljava/lang/Object;)Z"⟩ : MethodName) jdk_42_method_66_code 3 (some .boolean) ws ({ frames := 1, cells := 0, slots := 0, locals := 14 } : Room) #[(.ref a0), (.ref a1)] h0 (QeqL Z t_a0 k_t_a0 n_t_a0 fn_t_a0 t_a1 k_t_a1 fn_t_a1 f_CS a0 a1 h0 n0) 0 0 := own_enter (plainFor_of_name pn_si4L) (fun m => ef_eqL m a0 a1) fun p e s m below meth c s₁ hx hby hml hlk hown hnm X0 e0 hZ hrt => by
 have hwd := qw hw
 have N0 := Fr.nil n0
 show qG p e below _ (s₁.setTop (mkF m 0 #[vR a0, vR a1, .unset] []))
 refine qb (fun _ k => XS.aloadN X0.here hx rfl (own_e hby d33 0 rfl) rfl rfl k) ?_
 refine qb (fun _ k => XS.aloadN X0.here hx rfl (own_e hby d33 1 rfl) rfl rfl k) ?_
 by_cases c1 : a0 = a1
 ·skip
  refine qb (fun _ k => Jvm.RoadKit.acmp (g := (mkF m 2 #[vR a0, vR a1, .unset] [(.ref a1), (.ref a0)])) X0 hx rfl rfl rfl (pc0 := 2) (pc' := 5) (same := true) rfl (own_e hby d33 2 rfl) rfl (decide_eq_true (congrArg Value.ref c1)) (by decide) (by decide) k) ?_
  show qG p e below _ (s₁.setTop (mkF m 5 #[vR a0, vR a1, .unset] []))
  refine qb (fun _ k => XS.iconst X0.here hx rfl (own_e hby d33 3 rfl) k) ?_
  exact own_retN X0 hx (t := .boolean) hrt (by simp) (own_e hby d33 4 rfl) hlk e0 ⟨rfl, N0, (Keep.refl h0 []), (Or.inl c1)⟩ (by decide) (by decide)
 ·skip
  refine qb (fun _ k => Jvm.RoadKit.acmp (g := (mkF m 2 #[vR a0, vR a1, .unset] [(.ref a1), (.ref a0)])) X0 hx rfl rfl rfl (pc0 := 2) (pc' := 7) (same := false) rfl (own_e hby d33 2 rfl) rfl (decide_eq_false fun q => c1 (Value.ref.inj q)) (by decide) (by decide) k) ?_
  show qG p e below _ (s₁.setTop (mkF m 7 #[vR a0, vR a1, .unset] []))
  refine qb (fun _ k => XS.aloadN X0.here hx rfl (own_e hby d33 5 rfl) rfl rfl k) ?_
  obtain ⟨T2, X2, e2, st2⟩ := instY X0 hx hZ hown (hwd 228 rfl) e0 (Ins.self P_E_a1) (g := (mkF m 8 #[vR a0, vR a1, .unset] [(.ref a1)])) rfl rfl (own_e hby d33 6 rfl)
  refine qb st2 ?_
  show qG p e below _ (T2.setTop (mkF m 11 #[vR a0, vR a1, .unset] [(.int 1)]))
  refine qb (fun _ k => XS.ifNo X2.here hx rfl (own_e hby d33 7 rfl) rfl ((if0 _ _).trans (feq (by decide : ¬ ((1 : Int32) = (0 : Int32)))).1) k) ?_
  show qG p e below _ (T2.setTop (mkF m 14 #[vR a0, vR a1, .unset] []))
  refine qb (fun _ k => XS.aloadN X2.here hx rfl (own_e hby d33 8 rfl) rfl rfl k) ?_
  obtain ⟨T3, X3, e3, st3⟩ := castY X2 hx hZ hown (hwd 228 rfl) e2 (Ins.self P_E_a1) (g := (mkF m 15 #[vR a0, vR a1, .unset] [(.ref a1)])) rfl rfl (own_e hby d33 9 rfl)
  refine qb st3 ?_
  show qG p e below _ (T3.setTop (mkF m 18 #[vR a0, vR a1, .unset] [(.ref a1)]))
  refine qb (fun _ k => XS.astoreN X3.here hx rfl (own_e hby d33 10 rfl) rfl rfl (l' := #[vR a0, vR a1, vR a1]) rfl k) ?_
  show qG p e below _ (T3.setTop (mkF m 19 #[vR a0, vR a1, vR a1] []))
  obtain ⟨T4, X4, e4, st4⟩ := getS2 X3 hx hZ hown (host := "") (Or.inl (hwd 57 rfl)) Via.refl e3 P_S_CS (g := (mkF m 19 #[vR a0, vR a1, vR a1] [])) rfl (own_e hby d33 11 rfl)
  refine qb st4 ?_
  refine qb (fun _ k => XS.ifNo X4.here hx rfl (own_e hby d33 12 rfl) rfl ((if0 _ _).trans (feq hn_CS).1) k) ?_
  show qG p e below _ (T4.setTop (mkF m 25 #[vR a0, vR a1, vR a1] []))
  refine qb (fun _ k => XS.aloadN X4.here hx rfl (own_e hby d33 13 rfl) rfl rfl k) ?_
  obtain ⟨T5, X5, e5, st5⟩ := getF X4 hx hZ hown (host := "") (Or.inl (hwd 58 rfl)) Via.refl e4 P_F_a0_coder (g := (mkF m 26 #[vR a0, vR a1, vR a1] [(.ref a0)])) rfl rfl (own_e hby d33 14 rfl)
  refine qb st5 ?_
  refine qb (fun _ k => XS.aloadN X5.here hx rfl (own_e hby d33 15 rfl) rfl rfl k) ?_
  obtain ⟨T6, X6, e6, st6⟩ := getF X5 hx hZ hown (host := "") (Or.inl (hwd 58 rfl)) Via.refl e5 P_F_a1_coder (g := (mkF m 30 #[vR a0, vR a1, vR a1] [(.ref a1), (.int 0)])) rfl rfl (own_e hby d33 16 rfl)
  refine qb st6 ?_
  refine qb (fun _ k => XS.icmpNo X6.here hx rfl (own_e hby d33 17 rfl) rfl (teq (by decide : (0 : Int32) = (0 : Int32))).2 k) ?_
  show qG p e below _ (T6.setTop (mkF m 36 #[vR a0, vR a1, vR a1] []))
  refine qb (fun _ k => XS.aloadN X6.here hx rfl (own_e hby d33 18 rfl) rfl rfl k) ?_
  obtain ⟨T7, X7, e7, st7⟩ := getF X6 hx hZ hown (host := "") (Or.inl (hwd 51 rfl)) Via.refl e6 P_F_a0_value (g := (mkF m 37 #[vR a0, vR a1, vR a1] [(.ref a0)])) rfl rfl (own_e hby d33 19 rfl)
  refine qb st7 ?_
  refine qb (fun _ k => XS.aloadN X7.here hx rfl (own_e hby d33 20 rfl) rfl rfl k) ?_
  obtain ⟨T8, X8, e8, st8⟩ := getF X7 hx hZ hown (host := "") (Or.inl (hwd 51 rfl)) Via.refl e7 P_F_a1_value (g := (mkF m 41 #[vR a0, vR a1, vR a1] [(.ref a1), (.ref t_a0)])) rfl rfl (own_e hby d33 21 rfl)
  refine qb st8 ?_
  obtain ⟨_, T9, Lc9, X9, hQ9, st9⟩ := own_cS X8 hx hZ hown hml (rmleq l Z A0 hw [] k_t_a0 n_t_a0 fn_t_a0 k_t_a1 fn_t_a1 t_a0 t_a1 h0 n0 Z0 P_V_t_a0 P_V_t_a1 hE ne_t_a0_t_a1) (hwd 229 rfl) (hwd 230 rfl) (hwd 231 rfl) (hwd 232 rfl) (by decide) pd_229 e8 (g := (mkF m 44 #[vR a0, vR a1, vR a1] [(.ref t_a1), (.ref t_a0)])) (rest := []) rfl rfl rfl rfl (own_e hby d33 22 rfl) rfl
  obtain ⟨rfl, Nq9, Kq9⟩ := hQ9
  have N9 := Fr.app N0 Nq9
  have K9 : Keep h0 T9.heap [] := (Keep.refl h0 []).trans Kq9 (all0)
  have Z9 := ql Z0 Kq9.1
  refine qb st9 ?_
  show qG p e below _ (T9.setTop (mkF m 47 #[vR a0, vR a1, vR a1] [(.int 1)]))
  refine qb (fun _ k => XS.ifNo X9.here hx rfl (own_e hby d33 23 rfl) rfl ((if0 _ _).trans (feq (by decide : ¬ ((1 : Int32) = (0 : Int32)))).1) k) ?_
  show qG p e below _ (T9.setTop (mkF m 50 #[vR a0, vR a1, vR a1] []))
  refine qb (fun _ k => XS.iconst X9.here hx rfl (own_e hby d33 24 rfl) k) ?_
  refine qb (fun _ k => XS.goto X9.here hx rfl (pc0 := 51) (pc' := 55) rfl (own_e hby d33 25 rfl) (by decide) (by decide) k) ?_
  show qG p e below _ (T9.setTop (mkF m 55 #[vR a0, vR a1, vR a1] [(.int 1)]))
  exact own_retN X9 hx (t := .boolean) hrt (by simp) (own_e hby d33 26 rfl) hlk rfl ⟨rfl, N9, K9, (Or.inr (c1))⟩ (by decide) (by decide)
theorem ef_eqU (m : MethodId) (a0 a1 : Addr) : entryFrame m #[(.ref a0), (.ref a1)] 3 = mkF m 0 #[vR a0, vR a1, .unset] [] := rfl
def QeqU (Z : State) (t_a0 : Addr) (k_t_a0 : ClassId) (n_t_a0 : Int32) (fn_t_a0 : Nat → Int32) (t_a1 : Addr) (k_t_a1 : ClassId) (fn_t_a1 : Nat → Int32) (f_CS : Int32) (a0 a1 : Addr) (h0 : Heap) (n0 : Nat) (v : Option Value) (h : Heap) (L : List Loc) : Prop := v = some (.int 1) ∧ Fr n0 L ∧ Keep h0 h [] ∧ (((a0 = a1)) ∨ ((¬ (a0 = a1))))
theorem rmeqU (l : Launch) (Z : State) (A0 : Array Value) (hw : ∀ d ∈ tables_1, d.before A0 Z = true) (ws : List Jvm.Cond) (t_a0 : Addr) (k_t_a0 : ClassId) (n_t_a0 : Int32) (fn_t_a0 : Nat → Int32) (t_a1 : Addr) (k_t_a1 : ClassId) (fn_t_a1 : Nat → Int32) (f_CS : Int32) (a0 a1 : Addr) (h0 : Heap) (n0 : Nat) (Z0 : n0 ≤ h0.size) (P_E_a0 : Exa Z h0 a0 "java/lang/String") (P_F_a0_coder : Fld Z h0 a0 cS "coder" "B" (.int 1)) (P_F_a0_value : Fld Z h0 a0 cS "value" "[B" (.ref t_a0)) (P_V_t_a0 : qA Z h0 t_a0 k_t_a0 .byte n_t_a0 (fun i => .int (fn_t_a0 i))) (P_E_a1 : Exa Z h0 a1 "java/lang/String") (P_F_a1_coder : Fld Z h0 a1 cS "coder" "B" (.int 1)) (P_F_a1_value : Fld Z h0 a1 cS "value" "[B" (.ref t_a1)) (P_V_t_a1 : qA Z h0 t_a1 k_t_a1 .byte n_t_a0 (fun i => .int (fn_t_a1 i))) (P_S_CS : Sta Z h0 cS "COMPACT_STRINGS" "Z" (.int f_CS)) (hn_CS : ¬ (f_CS = (0 : Int32))) (hE : ∀ j, j < (n_t_a0).toNatClampNeg → fn_t_a0 j = fn_t_a1 j) (ne_t_a0_t_a1 : t_a0 ≠ t_a1) :
  qM l Z (⟨"java/lang/String", "equals", "(Ljava/lang/Object;)Z"⟩ : MethodName) jdk_42_method_66_code 3 (some .boolean) ws ({ frames := 1, cells := 0, slots := 0, locals := 14 } : Room) #[(.ref a0), (.ref a1)] h0 (QeqU Z t_a0 k_t_a0 n_t_a0 fn_t_a0 t_a1 k_t_a1 fn_t_a1 f_CS a0 a1 h0 n0) 0 0 := own_enter (plainFor_of_name pn_si4L) (fun m => ef_eqU m a0 a1) fun p e s m below meth c s₁ hx hby hml hlk hown hnm X0 e0 hZ hrt => by
 have hwd := qw hw
 have N0 := Fr.nil n0
 show qG p e below _ (s₁.setTop (mkF m 0 #[vR a0, vR a1, .unset] []))
 refine qb (fun _ k => XS.aloadN X0.here hx rfl (own_e hby d33 0 rfl) rfl rfl k) ?_
 refine qb (fun _ k => XS.aloadN X0.here hx rfl (own_e hby d33 1 rfl) rfl rfl k) ?_
 by_cases c1 : a0 = a1
 ·skip
  refine qb (fun _ k => Jvm.RoadKit.acmp (g := (mkF m 2 #[vR a0, vR a1, .unset] [(.ref a1), (.ref a0)])) X0 hx rfl rfl rfl (pc0 := 2) (pc' := 5) (same := true) rfl (own_e hby d33 2 rfl) rfl (decide_eq_true (congrArg Value.ref c1)) (by decide) (by decide) k) ?_
  show qG p e below _ (s₁.setTop (mkF m 5 #[vR a0, vR a1, .unset] []))
  refine qb (fun _ k => XS.iconst X0.here hx rfl (own_e hby d33 3 rfl) k) ?_
  exact own_retN X0 hx (t := .boolean) hrt (by simp) (own_e hby d33 4 rfl) hlk e0 ⟨rfl, N0, (Keep.refl h0 []), (Or.inl c1)⟩ (by decide) (by decide)
 ·skip
  refine qb (fun _ k => Jvm.RoadKit.acmp (g := (mkF m 2 #[vR a0, vR a1, .unset] [(.ref a1), (.ref a0)])) X0 hx rfl rfl rfl (pc0 := 2) (pc' := 7) (same := false) rfl (own_e hby d33 2 rfl) rfl (decide_eq_false fun q => c1 (Value.ref.inj q)) (by decide) (by decide) k) ?_
  show qG p e below _ (s₁.setTop (mkF m 7 #[vR a0, vR a1, .unset] []))
  refine qb (fun _ k => XS.aloadN X0.here hx rfl (own_e hby d33 5 rfl) rfl rfl k) ?_
  obtain ⟨T2, X2, e2, st2⟩ := instY X0 hx hZ hown (hwd 228 rfl) e0 (Ins.self P_E_a1) (g := (mkF m 8 #[vR a0, vR a1, .unset] [(.ref a1)])) rfl rfl (own_e hby d33 6 rfl)
  refine qb st2 ?_
  show qG p e below _ (T2.setTop (mkF m 11 #[vR a0, vR a1, .unset] [(.int 1)]))
  refine qb (fun _ k => XS.ifNo X2.here hx rfl (own_e hby d33 7 rfl) rfl ((if0 _ _).trans (feq (by decide : ¬ ((1 : Int32) = (0 : Int32)))).1) k) ?_
  show qG p e below _ (T2.setTop (mkF m 14 #[vR a0, vR a1, .unset] []))
  refine qb (fun _ k => XS.aloadN X2.here hx rfl (own_e hby d33 8 rfl) rfl rfl k) ?_
  obtain ⟨T3, X3, e3, st3⟩ := castY X2 hx hZ hown (hwd 228 rfl) e2 (Ins.self P_E_a1) (g := (mkF m 15 #[vR a0, vR a1, .unset] [(.ref a1)])) rfl rfl (own_e hby d33 9 rfl)
  refine qb st3 ?_
  show qG p e below _ (T3.setTop (mkF m 18 #[vR a0, vR a1, .unset] [(.ref a1)]))
  refine qb (fun _ k => XS.astoreN X3.here hx rfl (own_e hby d33 10 rfl) rfl rfl (l' := #[vR a0, vR a1, vR a1]) rfl k) ?_
  show qG p e below _ (T3.setTop (mkF m 19 #[vR a0, vR a1, vR a1] []))
  obtain ⟨T4, X4, e4, st4⟩ := getS2 X3 hx hZ hown (host := "") (Or.inl (hwd 57 rfl)) Via.refl e3 P_S_CS (g := (mkF m 19 #[vR a0, vR a1, vR a1] [])) rfl (own_e hby d33 11 rfl)
  refine qb st4 ?_
  refine qb (fun _ k => XS.ifNo X4.here hx rfl (own_e hby d33 12 rfl) rfl ((if0 _ _).trans (feq hn_CS).1) k) ?_
  show qG p e below _ (T4.setTop (mkF m 25 #[vR a0, vR a1, vR a1] []))
  refine qb (fun _ k => XS.aloadN X4.here hx rfl (own_e hby d33 13 rfl) rfl rfl k) ?_
  obtain ⟨T5, X5, e5, st5⟩ := getF X4 hx hZ hown (host := "") (Or.inl (hwd 58 rfl)) Via.refl e4 P_F_a0_coder (g := (mkF m 26 #[vR a0, vR a1, vR a1] [(.ref a0)])) rfl rfl (own_e hby d33 14 rfl)
  refine qb st5 ?_
  refine qb (fun _ k => XS.aloadN X5.here hx rfl (own_e hby d33 15 rfl) rfl rfl k) ?_
  obtain ⟨T6, X6, e6, st6⟩ := getF X5 hx hZ hown (host := "") (Or.inl (hwd 58 rfl)) Via.refl e5 P_F_a1_coder (g := (mkF m 30 #[vR a0, vR a1, vR a1] [(.ref a1), (.int 1)])) rfl rfl (own_e hby d33 16 rfl)
  refine qb st6 ?_
  refine qb (fun _ k => XS.icmpNo X6.here hx rfl (own_e hby d33 17 rfl) rfl (teq (by decide : (1 : Int32) = (1 : Int32))).2 k) ?_
  show qG p e below _ (T6.setTop (mkF m 36 #[vR a0, vR a1, vR a1] []))
  refine qb (fun _ k => XS.aloadN X6.here hx rfl (own_e hby d33 18 rfl) rfl rfl k) ?_
  obtain ⟨T7, X7, e7, st7⟩ := getF X6 hx hZ hown (host := "") (Or.inl (hwd 51 rfl)) Via.refl e6 P_F_a0_value (g := (mkF m 37 #[vR a0, vR a1, vR a1] [(.ref a0)])) rfl rfl (own_e hby d33 19 rfl)
  refine qb st7 ?_
  refine qb (fun _ k => XS.aloadN X7.here hx rfl (own_e hby d33 20 rfl) rfl rfl k) ?_
  obtain ⟨T8, X8, e8, st8⟩ := getF X7 hx hZ hown (host := "") (Or.inl (hwd 51 rfl)) Via.refl e7 P_F_a1_value (g := (mkF m 41 #[vR a0, vR a1, vR a1] [(.ref a1), (.ref t_a0)])) rfl rfl (own_e hby d33 21 rfl)
  refine qb st8 ?_
  obtain ⟨_, T9, Lc9, X9, hQ9, st9⟩ := own_cS X8 hx hZ hown hml (rmleq l Z A0 hw [] k_t_a0 n_t_a0 fn_t_a0 k_t_a1 fn_t_a1 t_a0 t_a1 h0 n0 Z0 P_V_t_a0 P_V_t_a1 hE ne_t_a0_t_a1) (hwd 229 rfl) (hwd 230 rfl) (hwd 231 rfl) (hwd 232 rfl) (by decide) pd_229 e8 (g := (mkF m 44 #[vR a0, vR a1, vR a1] [(.ref t_a1), (.ref t_a0)])) (rest := []) rfl rfl rfl rfl (own_e hby d33 22 rfl) rfl
  obtain ⟨rfl, Nq9, Kq9⟩ := hQ9
  have N9 := Fr.app N0 Nq9
  have K9 : Keep h0 T9.heap [] := (Keep.refl h0 []).trans Kq9 (all0)
  have Z9 := ql Z0 Kq9.1
  refine qb st9 ?_
  show qG p e below _ (T9.setTop (mkF m 47 #[vR a0, vR a1, vR a1] [(.int 1)]))
  refine qb (fun _ k => XS.ifNo X9.here hx rfl (own_e hby d33 23 rfl) rfl ((if0 _ _).trans (feq (by decide : ¬ ((1 : Int32) = (0 : Int32)))).1) k) ?_
  show qG p e below _ (T9.setTop (mkF m 50 #[vR a0, vR a1, vR a1] []))
  refine qb (fun _ k => XS.iconst X9.here hx rfl (own_e hby d33 24 rfl) k) ?_
  refine qb (fun _ k => XS.goto X9.here hx rfl (pc0 := 51) (pc' := 55) rfl (own_e hby d33 25 rfl) (by decide) (by decide) k) ?_
  show qG p e below _ (T9.setTop (mkF m 55 #[vR a0, vR a1, vR a1] [(.int 1)]))
  exact own_retN X9 hx (t := .boolean) hrt (by simp) (own_e hby d33 26 rfl) hlk rfl ⟨rfl, N9, K9, (Or.inr (c1))⟩ (by decide) (by decide)
def own_txt1 : List (Int × Int) := [(1, 32), (2, 108), (3, 105), (4, 115), (5, 116), (6, 115), (7, 32), (8, 110), (9, 111), (10, 32), (11, 115), (12, 116), (13, 97), (14, 116), (15, 101), (16, 44), (17, 32), (18, 97), (19, 110), (20, 100), (21, 32), (22, 97), (23, 32), (24, 109), (25, 111), (26, 100), (27, 101), (28, 108), (29, 32), (30, 104), (31, 97), (32, 115), (33, 32), (34, 97), (35, 116), (36, 32), (37, 108), (38, 101), (39, 97), (40, 115), (41, 116), (42, 32), (43, 111), (44, 110), (45, 101)]
theorem own_chk1 : ∀ j, j < 45 → own_has own_txt1 (1 + j) = true ∧ own_ff (fun _ => (0 : Int32)) own_txt1 (1 + j) = own_li own_LIT j := by decide +kernel
theorem own_not1 : ∀ j, j < 1 → own_has own_txt1 j = false := by decide +kernel
def own_txt2 : List (Int × Int) := [(2, 32), (3, 108), (4, 105), (5, 115), (6, 116), (7, 115), (8, 32), (9, 110), (10, 111), (11, 32), (12, 115), (13, 116), (14, 97), (15, 116), (16, 101), (17, 44), (18, 32), (19, 97), (20, 110), (21, 100), (22, 32), (23, 97), (24, 32), (25, 109), (26, 111), (27, 100), (28, 101), (29, 108), (30, 32), (31, 104), (32, 97), (33, 115), (34, 32), (35, 97), (36, 116), (37, 32), (38, 108), (39, 101), (40, 97), (41, 115), (42, 116), (43, 32), (44, 111), (45, 110), (46, 101)]
theorem own_chk2 : ∀ j, j < 45 → own_has own_txt2 (2 + j) = true ∧ own_ff (fun _ => (0 : Int32)) own_txt2 (2 + j) = own_li own_LIT j := by decide +kernel
theorem own_not2 : ∀ j, j < 2 → own_has own_txt2 j = false := by decide +kernel
def own_txt3 : List (Int × Int) := [(3, 32), (4, 108), (5, 105), (6, 115), (7, 116), (8, 115), (9, 32), (10, 110), (11, 111), (12, 32), (13, 115), (14, 116), (15, 97), (16, 116), (17, 101), (18, 44), (19, 32), (20, 97), (21, 110), (22, 100), (23, 32), (24, 97), (25, 32), (26, 109), (27, 111), (28, 100), (29, 101), (30, 108), (31, 32), (32, 104), (33, 97), (34, 115), (35, 32), (36, 97), (37, 116), (38, 32), (39, 108), (40, 101), (41, 97), (42, 115), (43, 116), (44, 32), (45, 111), (46, 110), (47, 101)]
theorem own_chk3 : ∀ j, j < 45 → own_has own_txt3 (3 + j) = true ∧ own_ff (fun _ => (0 : Int32)) own_txt3 (3 + j) = own_li own_LIT j := by decide +kernel
theorem own_not3 : ∀ j, j < 3 → own_has own_txt3 j = false := by decide +kernel
theorem pd_9 : parseMethodDescriptor "(Ljava/lang/String;)Lcom/example/model_check_sql/modelchecksql/model/ModelFormatException;" = some ⟨[(.object "java/lang/String")], some (.object "com/example/model_check_sql/modelchecksql/model/ModelFormatException")⟩ := by decide +kernel
theorem pd_223 : parseMethodDescriptor "(Ljava/lang/Object;)Z" = some ⟨[(.object "java/lang/Object")], some .boolean⟩ := by decide +kernel
theorem pd_300 : parseMethodDescriptor "(C)Ljava/lang/String;" = some ⟨[.char], some (.object "java/lang/String")⟩ := by decide +kernel
theorem pd_235 : parseMethodDescriptor "([C)V" = some ⟨[(.array .char)], none⟩ := by decide +kernel
theorem pn_0 : plainName "com/example/model_check_sql/modelchecksql/model/ModelReadingNoStatePinLaw" = true := by first | (simp [plainName, overriddenIn]; done) | decide +kernel
theorem ef_0 (m : MethodId) (p0 p1 : Int32) (p2 p3 : Int32) : entryFrame m #[(.int p0), (.int p1), (.int p2), (.int p3)] maxLocals = mkF m 0 #[vI p0, vI p1, vI p2, vI p3, .unset, .unset, .unset, .unset, .unset, .unset, .unset, .unset] [] := by first | (simp [entryFrame, mkF, argsToLocals, Value.category, maxLocals]; done) | rfl
theorem ob_0_41 (f_CS : Int32) (f_SF f_SS : Value) (p0 p1 : Int32) (p2 p3 : Int32) (v1 v2 : Int32) (v3 v4 : Int32) (hn_CS : ¬ (f_CS = (0 : Int32))) (hr_f_SF : f_SF.isRef = true) (hr_f_SS : f_SS.isRef = true) (hv1 : (p0 &&& (3 : Int32)) = v1) (hv2 : (p1.toUInt32.toUInt16.toUInt32.toInt32) = v2) (hv3 : (p2.toUInt32.toUInt16.toUInt32.toInt32) = v3) (hv4 : (p3.toUInt32.toUInt16.toUInt32.toInt32) = v4) (c5 : v1 = (0 : Int32)) : ∀ j, j < 45 → (own_cp (own_li own_LIT) 0 (own_cp (own_cp (own_li []) 0 (fun _ => (0 : Int32)) 0 0) 0 (fun _ => (0 : Int32)) 0 16) 0 45) j = (own_li own_LIT) j := by
  exact own_fin0 _
theorem ob_0_42 (f_CS : Int32) (f_SF f_SS : Value) (p0 p1 : Int32) (p2 p3 : Int32) (v1 v2 : Int32) (v3 v4 : Int32) (hn_CS : ¬ (f_CS = (0 : Int32))) (hr_f_SF : f_SF.isRef = true) (hr_f_SS : f_SS.isRef = true) (hv1 : (p0 &&& (3 : Int32)) = v1) (hv2 : (p1.toUInt32.toUInt16.toUInt32.toInt32) = v2) (hv3 : (p2.toUInt32.toUInt16.toUInt32.toInt32) = v3) (hv4 : (p3.toUInt32.toUInt16.toUInt32.toInt32) = v4) (c5 : ¬ (v1 = (0 : Int32))) (c45 : v1 = (1 : Int32)) (hLU46 : (255 : Int32) < v2) : ∃ j, j < 46 ∧ (255 : Int32) < (own_ff (qu (fun _ => (0 : Int32)) 0 (nar .char v2)) own_txt1) j := by
  have n0 := own_nc hv2
  have n1 := own_nc hv3
  have n2 := own_nc hv4
  have hq := own_q1 n0.1
  have hA : ∀ j, j < 1 → own_ff (qu (fun _ => (0 : Int32)) 0 (nar .char v2)) own_txt1 j = own_v1 v2 j := fun j hj => (own_ffF _ _ _ (own_not1 j hj)).trans (hq j hj)
  have hB : ∀ j, j < 45 → own_ff (qu (fun _ => (0 : Int32)) 0 (nar .char v2)) own_txt1 (1 + j) = own_li own_LIT j := fun j hj => (own_ffT _ _ (fun _ => (0 : Int32)) _ (own_chk1 j hj).1).trans (own_chk1 j hj).2
  have hu := own_u1 hLU46
  exact own_gU hA hu
theorem ob_0_43 (f_CS : Int32) (f_SF f_SS : Value) (p0 p1 : Int32) (p2 p3 : Int32) (v1 v2 : Int32) (v3 v4 : Int32) (hn_CS : ¬ (f_CS = (0 : Int32))) (hr_f_SF : f_SF.isRef = true) (hr_f_SS : f_SS.isRef = true) (hv1 : (p0 &&& (3 : Int32)) = v1) (hv2 : (p1.toUInt32.toUInt16.toUInt32.toInt32) = v2) (hv3 : (p2.toUInt32.toUInt16.toUInt32.toInt32) = v3) (hv4 : (p3.toUInt32.toUInt16.toUInt32.toInt32) = v4) (c5 : ¬ (v1 = (0 : Int32))) (c45 : v1 = (1 : Int32)) (hLU46 : (255 : Int32) < v2) : ∀ j, j < 46 → 0 ≤ ((own_ff (qu (fun _ => (0 : Int32)) 0 (nar .char v2)) own_txt1) j).toInt ∧ ((own_ff (qu (fun _ => (0 : Int32)) 0 (nar .char v2)) own_txt1) j).toInt < 65536 := by
  have n0 := own_nc hv2
  have n1 := own_nc hv3
  have n2 := own_nc hv4
  have hq := own_q1 n0.1
  have hA : ∀ j, j < 1 → own_ff (qu (fun _ => (0 : Int32)) 0 (nar .char v2)) own_txt1 j = own_v1 v2 j := fun j hj => (own_ffF _ _ _ (own_not1 j hj)).trans (hq j hj)
  have hB : ∀ j, j < 45 → own_ff (qu (fun _ => (0 : Int32)) 0 (nar .char v2)) own_txt1 (1 + j) = own_li own_LIT j := fun j hj => (own_ffT _ _ (fun _ => (0 : Int32)) _ (own_chk1 j hj).1).trans (own_chk1 j hj).2
  have hr := own_r1 n0.2
  exact own_gR hA hr hB
theorem ob_0_44 (f_CS : Int32) (f_SF f_SS : Value) (p0 p1 : Int32) (p2 p3 : Int32) (v1 v2 : Int32) (v3 v4 : Int32) (b76 b102 : Nat → Int32) (hn_CS : ¬ (f_CS = (0 : Int32))) (hr_f_SF : f_SF.isRef = true) (hr_f_SS : f_SS.isRef = true) (hv1 : (p0 &&& (3 : Int32)) = v1) (hv2 : (p1.toUInt32.toUInt16.toUInt32.toInt32) = v2) (hv3 : (p2.toUInt32.toUInt16.toUInt32.toInt32) = v3) (hv4 : (p3.toUInt32.toUInt16.toUInt32.toInt32) = v4) (c5 : ¬ (v1 = (0 : Int32))) (c45 : v1 = (1 : Int32)) (hLU46 : (255 : Int32) < v2) (hp84 : (∃ (b5_siU : Nat → Int32), ((∃ (b6_si4U : Nat → Int32), (own_u16 (own_ff (qu (fun _ => (0 : Int32)) 0 (nar .char v2)) own_txt1) b6_si4U 46) ∧ b5_siU = b6_si4U)) ∧ b76 = b5_siU)) (hp119 : (∃ (b49_noU : Nat → Int32), ((∃ (b4_a10G : Nat → Int32), ((∃ (b26_ap10G : Nat → Int32), ((∃ (b5_ps10 : Nat → Int32), ((∃ (b6_gb01 : Nat → Int32), ((∃ (b2_slL : Nat → Int32), (own_inf (own_li own_LIT) (own_cp (own_cp (qu (qu (fun _ => (0 : Int32)) 0 (nar .byte (v2.toInt8.toInt32))) 1 (nar .byte ((v2 >>> ((8 : Int32) &&& 31)).toInt8.toInt32))) 0 (fun _ => (0 : Int32)) 0 2) 0 (fun _ => (0 : Int32)) 0 32) b2_slL 1 45) ∧ b6_gb01 = b2_slL)) ∧ b5_ps10 = b6_gb01)) ∧ b26_ap10G = b5_ps10)) ∧ b4_a10G = b26_ap10G)) ∧ b49_noU = b4_a10G)) ∧ b102 = b49_noU)) : ∀ j, j < 92 → b102 j = b76 j := by
  have n0 := own_nc hv2
  have n1 := own_nc hv3
  have n2 := own_nc hv4
  have hq := own_q1 n0.1
  have hA : ∀ j, j < 1 → own_ff (qu (fun _ => (0 : Int32)) 0 (nar .char v2)) own_txt1 j = own_v1 v2 j := fun j hj => (own_ffF _ _ _ (own_not1 j hj)).trans (hq j hj)
  have hB : ∀ j, j < 45 → own_ff (qu (fun _ => (0 : Int32)) 0 (nar .char v2)) own_txt1 (1 + j) = own_li own_LIT j := fun j hj => (own_ffT _ _ (fun _ => (0 : Int32)) _ (own_chk1 j hj).1).trans (own_chk1 j hj).2
  obtain ⟨_, ⟨_, ⟨_, ⟨_, ⟨_, ⟨_, hX_hp119, rfl⟩, rfl⟩, rfl⟩, rfl⟩, rfl⟩, rfl⟩ := hp119
  obtain ⟨_, ⟨_, hX_hp84, rfl⟩, rfl⟩ := hp84
  exact own_finU 1 (by decide) (own_pU hA (own_p1U n0.1) hq) hB hX_hp119 hX_hp84
theorem ob_0_45 (f_CS : Int32) (f_SF f_SS : Value) (p0 p1 : Int32) (p2 p3 : Int32) (v1 v2 : Int32) (v3 v4 : Int32) (hn_CS : ¬ (f_CS = (0 : Int32))) (hr_f_SF : f_SF.isRef = true) (hr_f_SS : f_SS.isRef = true) (hv1 : (p0 &&& (3 : Int32)) = v1) (hv2 : (p1.toUInt32.toUInt16.toUInt32.toInt32) = v2) (hv3 : (p2.toUInt32.toUInt16.toUInt32.toInt32) = v3) (hv4 : (p3.toUInt32.toUInt16.toUInt32.toInt32) = v4) (c5 : ¬ (v1 = (0 : Int32))) (c45 : v1 = (1 : Int32)) (hLU46 : ¬ ((255 : Int32) < v2)) : ∀ j, j < 46 → ¬ ((255 : Int32) < (own_ff (qu (fun _ => (0 : Int32)) 0 (nar .char v2)) own_txt1) j) := by
  have n0 := own_nc hv2
  have n1 := own_nc hv3
  have n2 := own_nc hv4
  have hq := own_q1 n0.1
  have hA : ∀ j, j < 1 → own_ff (qu (fun _ => (0 : Int32)) 0 (nar .char v2)) own_txt1 j = own_v1 v2 j := fun j hj => (own_ffF _ _ _ (own_not1 j hj)).trans (hq j hj)
  have hB : ∀ j, j < 45 → own_ff (qu (fun _ => (0 : Int32)) 0 (nar .char v2)) own_txt1 (1 + j) = own_li own_LIT j := fun j hj => (own_ffT _ _ (fun _ => (0 : Int32)) _ (own_chk1 j hj).1).trans (own_chk1 j hj).2
  have hl := own_l1 hLU46
  exact own_gL hA hl hB
theorem ob_0_46 (f_CS : Int32) (f_SF f_SS : Value) (p0 p1 : Int32) (p2 p3 : Int32) (v1 v2 : Int32) (v3 v4 : Int32) (b154 : Nat → Int32) (hn_CS : ¬ (f_CS = (0 : Int32))) (hr_f_SF : f_SF.isRef = true) (hr_f_SS : f_SS.isRef = true) (hv1 : (p0 &&& (3 : Int32)) = v1) (hv2 : (p1.toUInt32.toUInt16.toUInt32.toInt32) = v2) (hv3 : (p2.toUInt32.toUInt16.toUInt32.toInt32) = v3) (hv4 : (p3.toUInt32.toUInt16.toUInt32.toInt32) = v4) (c5 : ¬ (v1 = (0 : Int32))) (c45 : v1 = (1 : Int32)) (hLU46 : ¬ ((255 : Int32) < v2)) (hp162 : (∃ (b5_siL : Nat → Int32), ((∃ (b6_si4L : Nat → Int32), (own_cL (own_ff (qu (fun _ => (0 : Int32)) 0 (nar .char v2)) own_txt1) b6_si4L 46) ∧ b5_siL = b6_si4L)) ∧ b154 = b5_siL)) : ∀ j, j < 46 → (own_cp (own_li own_LIT) 0 (own_cp (own_cp (qu (fun _ => (0 : Int32)) 0 (nar .byte (v2.toInt8.toInt32))) 0 (fun _ => (0 : Int32)) 0 1) 0 (fun _ => (0 : Int32)) 0 16) 1 45) j = b154 j := by
  have n0 := own_nc hv2
  have n1 := own_nc hv3
  have n2 := own_nc hv4
  have hq := own_q1 n0.1
  have hA : ∀ j, j < 1 → own_ff (qu (fun _ => (0 : Int32)) 0 (nar .char v2)) own_txt1 j = own_v1 v2 j := fun j hj => (own_ffF _ _ _ (own_not1 j hj)).trans (hq j hj)
  have hB : ∀ j, j < 45 → own_ff (qu (fun _ => (0 : Int32)) 0 (nar .char v2)) own_txt1 (1 + j) = own_li own_LIT j := fun j hj => (own_ffT _ _ (fun _ => (0 : Int32)) _ (own_chk1 j hj).1).trans (own_chk1 j hj).2
  obtain ⟨_, ⟨_, hX_hp162, rfl⟩, rfl⟩ := hp162
  exact own_finL 1 (by decide) (own_pL hA (own_p1L n0.1 hLU46) hq) hB hX_hp162
theorem ob_0_47 (f_CS : Int32) (f_SF f_SS : Value) (p0 p1 : Int32) (p2 p3 : Int32) (v1 v2 : Int32) (v3 v4 : Int32) (hn_CS : ¬ (f_CS = (0 : Int32))) (hr_f_SF : f_SF.isRef = true) (hr_f_SS : f_SS.isRef = true) (hv1 : (p0 &&& (3 : Int32)) = v1) (hv2 : (p1.toUInt32.toUInt16.toUInt32.toInt32) = v2) (hv3 : (p2.toUInt32.toUInt16.toUInt32.toInt32) = v3) (hv4 : (p3.toUInt32.toUInt16.toUInt32.toInt32) = v4) (c5 : ¬ (v1 = (0 : Int32))) (c45 : ¬ (v1 = (1 : Int32))) (c200 : v1 = (2 : Int32)) (hLU201 : (255 : Int32) < v2 ∨ (255 : Int32) < v3) : ∃ j, j < 2 ∧ (255 : Int32) < (qu (qu (fun _ => (0 : Int32)) 0 (nar .char v2)) 1 (nar .char v3)) j := by
  have n0 := own_nc hv2
  have n1 := own_nc hv3
  have n2 := own_nc hv4
  have hq := own_q2 n0.1 n1.1
  have hu := own_u2 hLU201
  obtain ⟨j, q1, q2⟩ := hu
  exact ⟨j, q1, by rw [hq j q1]; exact q2⟩
theorem ob_0_48 (f_CS : Int32) (f_SF f_SS : Value) (p0 p1 : Int32) (p2 p3 : Int32) (v1 v2 : Int32) (v3 v4 : Int32) (hn_CS : ¬ (f_CS = (0 : Int32))) (hr_f_SF : f_SF.isRef = true) (hr_f_SS : f_SS.isRef = true) (hv1 : (p0 &&& (3 : Int32)) = v1) (hv2 : (p1.toUInt32.toUInt16.toUInt32.toInt32) = v2) (hv3 : (p2.toUInt32.toUInt16.toUInt32.toInt32) = v3) (hv4 : (p3.toUInt32.toUInt16.toUInt32.toInt32) = v4) (c5 : ¬ (v1 = (0 : Int32))) (c45 : ¬ (v1 = (1 : Int32))) (c200 : v1 = (2 : Int32)) (hLU201 : (255 : Int32) < v2 ∨ (255 : Int32) < v3) : ∀ j, j < 2 → 0 ≤ ((qu (qu (fun _ => (0 : Int32)) 0 (nar .char v2)) 1 (nar .char v3)) j).toInt ∧ ((qu (qu (fun _ => (0 : Int32)) 0 (nar .char v2)) 1 (nar .char v3)) j).toInt < 65536 := by
  have n0 := own_nc hv2
  have n1 := own_nc hv3
  have n2 := own_nc hv4
  have hq := own_q2 n0.1 n1.1
  have hr := own_r2 n0.2 n1.2
  exact fun j hj => by rw [hq j hj]; exact hr j hj
theorem ob_0_49 (f_CS : Int32) (f_SF f_SS : Value) (p0 p1 : Int32) (p2 p3 : Int32) (v1 v2 : Int32) (v3 v4 : Int32) (b218 : Nat → Int32) (hn_CS : ¬ (f_CS = (0 : Int32))) (hr_f_SF : f_SF.isRef = true) (hr_f_SS : f_SS.isRef = true) (hv1 : (p0 &&& (3 : Int32)) = v1) (hv2 : (p1.toUInt32.toUInt16.toUInt32.toInt32) = v2) (hv3 : (p2.toUInt32.toUInt16.toUInt32.toInt32) = v3) (hv4 : (p3.toUInt32.toUInt16.toUInt32.toInt32) = v4) (c5 : ¬ (v1 = (0 : Int32))) (c45 : ¬ (v1 = (1 : Int32))) (c200 : v1 = (2 : Int32)) (hLU201 : (255 : Int32) < v2 ∨ (255 : Int32) < v3) (hp226 : (∃ (b5_siU : Nat → Int32), ((∃ (b6_si4U : Nat → Int32), (own_u16 (qu (qu (fun _ => (0 : Int32)) 0 (nar .char v2)) 1 (nar .char v3)) b6_si4U 2) ∧ b5_siU = b6_si4U)) ∧ b218 = b5_siU)) : ∃ j, j < 47 ∧ (255 : Int32) < (own_ff (qu (qu (fun _ => (0 : Int32)) 0 (nar .char v2)) 1 (nar .char v3)) own_txt2) j := by
  have n0 := own_nc hv2
  have n1 := own_nc hv3
  have n2 := own_nc hv4
  have hq := own_q2 n0.1 n1.1
  have hA : ∀ j, j < 2 → own_ff (qu (qu (fun _ => (0 : Int32)) 0 (nar .char v2)) 1 (nar .char v3)) own_txt2 j = own_v2 v2 v3 j := fun j hj => (own_ffF _ _ _ (own_not2 j hj)).trans (hq j hj)
  have hB : ∀ j, j < 45 → own_ff (qu (qu (fun _ => (0 : Int32)) 0 (nar .char v2)) 1 (nar .char v3)) own_txt2 (2 + j) = own_li own_LIT j := fun j hj => (own_ffT _ _ (fun _ => (0 : Int32)) _ (own_chk2 j hj).1).trans (own_chk2 j hj).2
  have hu := own_u2 hLU201
  exact own_gU hA hu
theorem ob_0_50 (f_CS : Int32) (f_SF f_SS : Value) (p0 p1 : Int32) (p2 p3 : Int32) (v1 v2 : Int32) (v3 v4 : Int32) (b218 : Nat → Int32) (hn_CS : ¬ (f_CS = (0 : Int32))) (hr_f_SF : f_SF.isRef = true) (hr_f_SS : f_SS.isRef = true) (hv1 : (p0 &&& (3 : Int32)) = v1) (hv2 : (p1.toUInt32.toUInt16.toUInt32.toInt32) = v2) (hv3 : (p2.toUInt32.toUInt16.toUInt32.toInt32) = v3) (hv4 : (p3.toUInt32.toUInt16.toUInt32.toInt32) = v4) (c5 : ¬ (v1 = (0 : Int32))) (c45 : ¬ (v1 = (1 : Int32))) (c200 : v1 = (2 : Int32)) (hLU201 : (255 : Int32) < v2 ∨ (255 : Int32) < v3) (hp226 : (∃ (b5_siU : Nat → Int32), ((∃ (b6_si4U : Nat → Int32), (own_u16 (qu (qu (fun _ => (0 : Int32)) 0 (nar .char v2)) 1 (nar .char v3)) b6_si4U 2) ∧ b5_siU = b6_si4U)) ∧ b218 = b5_siU)) : ∀ j, j < 47 → 0 ≤ ((own_ff (qu (qu (fun _ => (0 : Int32)) 0 (nar .char v2)) 1 (nar .char v3)) own_txt2) j).toInt ∧ ((own_ff (qu (qu (fun _ => (0 : Int32)) 0 (nar .char v2)) 1 (nar .char v3)) own_txt2) j).toInt < 65536 := by
  have n0 := own_nc hv2
  have n1 := own_nc hv3
  have n2 := own_nc hv4
  have hq := own_q2 n0.1 n1.1
  have hA : ∀ j, j < 2 → own_ff (qu (qu (fun _ => (0 : Int32)) 0 (nar .char v2)) 1 (nar .char v3)) own_txt2 j = own_v2 v2 v3 j := fun j hj => (own_ffF _ _ _ (own_not2 j hj)).trans (hq j hj)
  have hB : ∀ j, j < 45 → own_ff (qu (qu (fun _ => (0 : Int32)) 0 (nar .char v2)) 1 (nar .char v3)) own_txt2 (2 + j) = own_li own_LIT j := fun j hj => (own_ffT _ _ (fun _ => (0 : Int32)) _ (own_chk2 j hj).1).trans (own_chk2 j hj).2
  have hr := own_r2 n0.2 n1.2
  exact own_gR hA hr hB
theorem ob_0_51 (f_CS : Int32) (f_SF f_SS : Value) (p0 p1 : Int32) (p2 p3 : Int32) (v1 v2 : Int32) (v3 v4 : Int32) (b218 b244 b270 : Nat → Int32) (hn_CS : ¬ (f_CS = (0 : Int32))) (hr_f_SF : f_SF.isRef = true) (hr_f_SS : f_SS.isRef = true) (hv1 : (p0 &&& (3 : Int32)) = v1) (hv2 : (p1.toUInt32.toUInt16.toUInt32.toInt32) = v2) (hv3 : (p2.toUInt32.toUInt16.toUInt32.toInt32) = v3) (hv4 : (p3.toUInt32.toUInt16.toUInt32.toInt32) = v4) (c5 : ¬ (v1 = (0 : Int32))) (c45 : ¬ (v1 = (1 : Int32))) (c200 : v1 = (2 : Int32)) (hLU201 : (255 : Int32) < v2 ∨ (255 : Int32) < v3) (hp226 : (∃ (b5_siU : Nat → Int32), ((∃ (b6_si4U : Nat → Int32), (own_u16 (qu (qu (fun _ => (0 : Int32)) 0 (nar .char v2)) 1 (nar .char v3)) b6_si4U 2) ∧ b5_siU = b6_si4U)) ∧ b218 = b5_siU)) (hp252 : (∃ (b5_siU : Nat → Int32), ((∃ (b6_si4U : Nat → Int32), (own_u16 (own_ff (qu (qu (fun _ => (0 : Int32)) 0 (nar .char v2)) 1 (nar .char v3)) own_txt2) b6_si4U 47) ∧ b5_siU = b6_si4U)) ∧ b244 = b5_siU)) (hp287 : (∃ (b49_noU : Nat → Int32), ((∃ (b4_a10G : Nat → Int32), ((∃ (b26_ap10G : Nat → Int32), ((∃ (b5_ps10 : Nat → Int32), ((∃ (b6_gb01 : Nat → Int32), ((∃ (b2_slL : Nat → Int32), (own_inf (own_li own_LIT) (own_cp (own_cp b218 0 (fun _ => (0 : Int32)) 0 4) 0 (fun _ => (0 : Int32)) 0 32) b2_slL 2 45) ∧ b6_gb01 = b2_slL)) ∧ b5_ps10 = b6_gb01)) ∧ b26_ap10G = b5_ps10)) ∧ b4_a10G = b26_ap10G)) ∧ b49_noU = b4_a10G)) ∧ b270 = b49_noU)) : ∀ j, j < 94 → b270 j = b244 j := by
  have n0 := own_nc hv2
  have n1 := own_nc hv3
  have n2 := own_nc hv4
  have hq := own_q2 n0.1 n1.1
  have hA : ∀ j, j < 2 → own_ff (qu (qu (fun _ => (0 : Int32)) 0 (nar .char v2)) 1 (nar .char v3)) own_txt2 j = own_v2 v2 v3 j := fun j hj => (own_ffF _ _ _ (own_not2 j hj)).trans (hq j hj)
  have hB : ∀ j, j < 45 → own_ff (qu (qu (fun _ => (0 : Int32)) 0 (nar .char v2)) 1 (nar .char v3)) own_txt2 (2 + j) = own_li own_LIT j := fun j hj => (own_ffT _ _ (fun _ => (0 : Int32)) _ (own_chk2 j hj).1).trans (own_chk2 j hj).2
  obtain ⟨_, ⟨_, ⟨_, ⟨_, ⟨_, ⟨_, hX_hp287, rfl⟩, rfl⟩, rfl⟩, rfl⟩, rfl⟩, rfl⟩ := hp287
  obtain ⟨_, ⟨_, hX_hp226, rfl⟩, rfl⟩ := hp226
  obtain ⟨_, ⟨_, hX_hp252, rfl⟩, rfl⟩ := hp252
  exact own_finU 2 (by decide) (own_pU hA (hX_hp226) hq) hB hX_hp287 hX_hp252
theorem ob_0_52 (f_CS : Int32) (f_SF f_SS : Value) (p0 p1 : Int32) (p2 p3 : Int32) (v1 v2 : Int32) (v3 v4 : Int32) (hn_CS : ¬ (f_CS = (0 : Int32))) (hr_f_SF : f_SF.isRef = true) (hr_f_SS : f_SS.isRef = true) (hv1 : (p0 &&& (3 : Int32)) = v1) (hv2 : (p1.toUInt32.toUInt16.toUInt32.toInt32) = v2) (hv3 : (p2.toUInt32.toUInt16.toUInt32.toInt32) = v3) (hv4 : (p3.toUInt32.toUInt16.toUInt32.toInt32) = v4) (c5 : ¬ (v1 = (0 : Int32))) (c45 : ¬ (v1 = (1 : Int32))) (c200 : v1 = (2 : Int32)) (hLU201 : ¬ ((255 : Int32) < v2 ∨ (255 : Int32) < v3)) : ∀ j, j < 2 → ¬ ((255 : Int32) < (qu (qu (fun _ => (0 : Int32)) 0 (nar .char v2)) 1 (nar .char v3)) j) := by
  have n0 := own_nc hv2
  have n1 := own_nc hv3
  have n2 := own_nc hv4
  have hq := own_q2 n0.1 n1.1
  have hl := own_l2 hLU201
  exact fun j hj => by rw [hq j hj]; exact hl j hj
theorem ob_0_53 (f_CS : Int32) (f_SF f_SS : Value) (p0 p1 : Int32) (p2 p3 : Int32) (v1 v2 : Int32) (v3 v4 : Int32) (b309 : Nat → Int32) (hn_CS : ¬ (f_CS = (0 : Int32))) (hr_f_SF : f_SF.isRef = true) (hr_f_SS : f_SS.isRef = true) (hv1 : (p0 &&& (3 : Int32)) = v1) (hv2 : (p1.toUInt32.toUInt16.toUInt32.toInt32) = v2) (hv3 : (p2.toUInt32.toUInt16.toUInt32.toInt32) = v3) (hv4 : (p3.toUInt32.toUInt16.toUInt32.toInt32) = v4) (c5 : ¬ (v1 = (0 : Int32))) (c45 : ¬ (v1 = (1 : Int32))) (c200 : v1 = (2 : Int32)) (hLU201 : ¬ ((255 : Int32) < v2 ∨ (255 : Int32) < v3)) (hp317 : (∃ (b5_siL : Nat → Int32), ((∃ (b6_si4L : Nat → Int32), (own_cL (qu (qu (fun _ => (0 : Int32)) 0 (nar .char v2)) 1 (nar .char v3)) b6_si4L 2) ∧ b5_siL = b6_si4L)) ∧ b309 = b5_siL)) : ∀ j, j < 47 → ¬ ((255 : Int32) < (own_ff (qu (qu (fun _ => (0 : Int32)) 0 (nar .char v2)) 1 (nar .char v3)) own_txt2) j) := by
  have n0 := own_nc hv2
  have n1 := own_nc hv3
  have n2 := own_nc hv4
  have hq := own_q2 n0.1 n1.1
  have hA : ∀ j, j < 2 → own_ff (qu (qu (fun _ => (0 : Int32)) 0 (nar .char v2)) 1 (nar .char v3)) own_txt2 j = own_v2 v2 v3 j := fun j hj => (own_ffF _ _ _ (own_not2 j hj)).trans (hq j hj)
  have hB : ∀ j, j < 45 → own_ff (qu (qu (fun _ => (0 : Int32)) 0 (nar .char v2)) 1 (nar .char v3)) own_txt2 (2 + j) = own_li own_LIT j := fun j hj => (own_ffT _ _ (fun _ => (0 : Int32)) _ (own_chk2 j hj).1).trans (own_chk2 j hj).2
  have hl := own_l2 hLU201
  exact own_gL hA hl hB
theorem ob_0_54 (f_CS : Int32) (f_SF f_SS : Value) (p0 p1 : Int32) (p2 p3 : Int32) (v1 v2 : Int32) (v3 v4 : Int32) (b309 b332 : Nat → Int32) (hn_CS : ¬ (f_CS = (0 : Int32))) (hr_f_SF : f_SF.isRef = true) (hr_f_SS : f_SS.isRef = true) (hv1 : (p0 &&& (3 : Int32)) = v1) (hv2 : (p1.toUInt32.toUInt16.toUInt32.toInt32) = v2) (hv3 : (p2.toUInt32.toUInt16.toUInt32.toInt32) = v3) (hv4 : (p3.toUInt32.toUInt16.toUInt32.toInt32) = v4) (c5 : ¬ (v1 = (0 : Int32))) (c45 : ¬ (v1 = (1 : Int32))) (c200 : v1 = (2 : Int32)) (hLU201 : ¬ ((255 : Int32) < v2 ∨ (255 : Int32) < v3)) (hp317 : (∃ (b5_siL : Nat → Int32), ((∃ (b6_si4L : Nat → Int32), (own_cL (qu (qu (fun _ => (0 : Int32)) 0 (nar .char v2)) 1 (nar .char v3)) b6_si4L 2) ∧ b5_siL = b6_si4L)) ∧ b309 = b5_siL)) (hp340 : (∃ (b5_siL : Nat → Int32), ((∃ (b6_si4L : Nat → Int32), (own_cL (own_ff (qu (qu (fun _ => (0 : Int32)) 0 (nar .char v2)) 1 (nar .char v3)) own_txt2) b6_si4L 47) ∧ b5_siL = b6_si4L)) ∧ b332 = b5_siL)) : ∀ j, j < 47 → (own_cp (own_li own_LIT) 0 (own_cp (own_cp b309 0 (fun _ => (0 : Int32)) 0 2) 0 (fun _ => (0 : Int32)) 0 16) 2 45) j = b332 j := by
  have n0 := own_nc hv2
  have n1 := own_nc hv3
  have n2 := own_nc hv4
  have hq := own_q2 n0.1 n1.1
  have hA : ∀ j, j < 2 → own_ff (qu (qu (fun _ => (0 : Int32)) 0 (nar .char v2)) 1 (nar .char v3)) own_txt2 j = own_v2 v2 v3 j := fun j hj => (own_ffF _ _ _ (own_not2 j hj)).trans (hq j hj)
  have hB : ∀ j, j < 45 → own_ff (qu (qu (fun _ => (0 : Int32)) 0 (nar .char v2)) 1 (nar .char v3)) own_txt2 (2 + j) = own_li own_LIT j := fun j hj => (own_ffT _ _ (fun _ => (0 : Int32)) _ (own_chk2 j hj).1).trans (own_chk2 j hj).2
  obtain ⟨_, ⟨_, hX_hp317, rfl⟩, rfl⟩ := hp317
  obtain ⟨_, ⟨_, hX_hp340, rfl⟩, rfl⟩ := hp340
  exact own_finL 2 (by decide) (own_pL hA (hX_hp317) hq) hB hX_hp340
theorem ob_0_55 (f_CS : Int32) (f_SF f_SS : Value) (p0 p1 : Int32) (p2 p3 : Int32) (v1 v2 : Int32) (v3 v4 : Int32) (hn_CS : ¬ (f_CS = (0 : Int32))) (hr_f_SF : f_SF.isRef = true) (hr_f_SS : f_SS.isRef = true) (hv1 : (p0 &&& (3 : Int32)) = v1) (hv2 : (p1.toUInt32.toUInt16.toUInt32.toInt32) = v2) (hv3 : (p2.toUInt32.toUInt16.toUInt32.toInt32) = v3) (hv4 : (p3.toUInt32.toUInt16.toUInt32.toInt32) = v4) (c5 : ¬ (v1 = (0 : Int32))) (c45 : ¬ (v1 = (1 : Int32))) (c200 : ¬ (v1 = (2 : Int32))) (hLU378 : (255 : Int32) < v2 ∨ (255 : Int32) < v3 ∨ (255 : Int32) < v4) : ∃ j, j < 3 ∧ (255 : Int32) < (qu (qu (qu (fun _ => (0 : Int32)) 0 (nar .char v2)) 1 (nar .char v3)) 2 (nar .char v4)) j := by
  have n0 := own_nc hv2
  have n1 := own_nc hv3
  have n2 := own_nc hv4
  have hq := own_q3 n0.1 n1.1 n2.1
  have hu := own_u3 hLU378
  obtain ⟨j, q1, q2⟩ := hu
  exact ⟨j, q1, by rw [hq j q1]; exact q2⟩
theorem ob_0_56 (f_CS : Int32) (f_SF f_SS : Value) (p0 p1 : Int32) (p2 p3 : Int32) (v1 v2 : Int32) (v3 v4 : Int32) (hn_CS : ¬ (f_CS = (0 : Int32))) (hr_f_SF : f_SF.isRef = true) (hr_f_SS : f_SS.isRef = true) (hv1 : (p0 &&& (3 : Int32)) = v1) (hv2 : (p1.toUInt32.toUInt16.toUInt32.toInt32) = v2) (hv3 : (p2.toUInt32.toUInt16.toUInt32.toInt32) = v3) (hv4 : (p3.toUInt32.toUInt16.toUInt32.toInt32) = v4) (c5 : ¬ (v1 = (0 : Int32))) (c45 : ¬ (v1 = (1 : Int32))) (c200 : ¬ (v1 = (2 : Int32))) (hLU378 : (255 : Int32) < v2 ∨ (255 : Int32) < v3 ∨ (255 : Int32) < v4) : ∀ j, j < 3 → 0 ≤ ((qu (qu (qu (fun _ => (0 : Int32)) 0 (nar .char v2)) 1 (nar .char v3)) 2 (nar .char v4)) j).toInt ∧ ((qu (qu (qu (fun _ => (0 : Int32)) 0 (nar .char v2)) 1 (nar .char v3)) 2 (nar .char v4)) j).toInt < 65536 := by
  have n0 := own_nc hv2
  have n1 := own_nc hv3
  have n2 := own_nc hv4
  have hq := own_q3 n0.1 n1.1 n2.1
  have hr := own_r3 n0.2 n1.2 n2.2
  exact fun j hj => by rw [hq j hj]; exact hr j hj
theorem ob_0_57 (f_CS : Int32) (f_SF f_SS : Value) (p0 p1 : Int32) (p2 p3 : Int32) (v1 v2 : Int32) (v3 v4 : Int32) (b397 : Nat → Int32) (hn_CS : ¬ (f_CS = (0 : Int32))) (hr_f_SF : f_SF.isRef = true) (hr_f_SS : f_SS.isRef = true) (hv1 : (p0 &&& (3 : Int32)) = v1) (hv2 : (p1.toUInt32.toUInt16.toUInt32.toInt32) = v2) (hv3 : (p2.toUInt32.toUInt16.toUInt32.toInt32) = v3) (hv4 : (p3.toUInt32.toUInt16.toUInt32.toInt32) = v4) (c5 : ¬ (v1 = (0 : Int32))) (c45 : ¬ (v1 = (1 : Int32))) (c200 : ¬ (v1 = (2 : Int32))) (hLU378 : (255 : Int32) < v2 ∨ (255 : Int32) < v3 ∨ (255 : Int32) < v4) (hp405 : (∃ (b5_siU : Nat → Int32), ((∃ (b6_si4U : Nat → Int32), (own_u16 (qu (qu (qu (fun _ => (0 : Int32)) 0 (nar .char v2)) 1 (nar .char v3)) 2 (nar .char v4)) b6_si4U 3) ∧ b5_siU = b6_si4U)) ∧ b397 = b5_siU)) : ∃ j, j < 48 ∧ (255 : Int32) < (own_ff (qu (qu (qu (fun _ => (0 : Int32)) 0 (nar .char v2)) 1 (nar .char v3)) 2 (nar .char v4)) own_txt3) j := by
  have n0 := own_nc hv2
  have n1 := own_nc hv3
  have n2 := own_nc hv4
  have hq := own_q3 n0.1 n1.1 n2.1
  have hA : ∀ j, j < 3 → own_ff (qu (qu (qu (fun _ => (0 : Int32)) 0 (nar .char v2)) 1 (nar .char v3)) 2 (nar .char v4)) own_txt3 j = own_v3 v2 v3 v4 j := fun j hj => (own_ffF _ _ _ (own_not3 j hj)).trans (hq j hj)
  have hB : ∀ j, j < 45 → own_ff (qu (qu (qu (fun _ => (0 : Int32)) 0 (nar .char v2)) 1 (nar .char v3)) 2 (nar .char v4)) own_txt3 (3 + j) = own_li own_LIT j := fun j hj => (own_ffT _ _ (fun _ => (0 : Int32)) _ (own_chk3 j hj).1).trans (own_chk3 j hj).2
  have hu := own_u3 hLU378
  exact own_gU hA hu
theorem ob_0_58 (f_CS : Int32) (f_SF f_SS : Value) (p0 p1 : Int32) (p2 p3 : Int32) (v1 v2 : Int32) (v3 v4 : Int32) (b397 : Nat → Int32) (hn_CS : ¬ (f_CS = (0 : Int32))) (hr_f_SF : f_SF.isRef = true) (hr_f_SS : f_SS.isRef = true) (hv1 : (p0 &&& (3 : Int32)) = v1) (hv2 : (p1.toUInt32.toUInt16.toUInt32.toInt32) = v2) (hv3 : (p2.toUInt32.toUInt16.toUInt32.toInt32) = v3) (hv4 : (p3.toUInt32.toUInt16.toUInt32.toInt32) = v4) (c5 : ¬ (v1 = (0 : Int32))) (c45 : ¬ (v1 = (1 : Int32))) (c200 : ¬ (v1 = (2 : Int32))) (hLU378 : (255 : Int32) < v2 ∨ (255 : Int32) < v3 ∨ (255 : Int32) < v4) (hp405 : (∃ (b5_siU : Nat → Int32), ((∃ (b6_si4U : Nat → Int32), (own_u16 (qu (qu (qu (fun _ => (0 : Int32)) 0 (nar .char v2)) 1 (nar .char v3)) 2 (nar .char v4)) b6_si4U 3) ∧ b5_siU = b6_si4U)) ∧ b397 = b5_siU)) : ∀ j, j < 48 → 0 ≤ ((own_ff (qu (qu (qu (fun _ => (0 : Int32)) 0 (nar .char v2)) 1 (nar .char v3)) 2 (nar .char v4)) own_txt3) j).toInt ∧ ((own_ff (qu (qu (qu (fun _ => (0 : Int32)) 0 (nar .char v2)) 1 (nar .char v3)) 2 (nar .char v4)) own_txt3) j).toInt < 65536 := by
  have n0 := own_nc hv2
  have n1 := own_nc hv3
  have n2 := own_nc hv4
  have hq := own_q3 n0.1 n1.1 n2.1
  have hA : ∀ j, j < 3 → own_ff (qu (qu (qu (fun _ => (0 : Int32)) 0 (nar .char v2)) 1 (nar .char v3)) 2 (nar .char v4)) own_txt3 j = own_v3 v2 v3 v4 j := fun j hj => (own_ffF _ _ _ (own_not3 j hj)).trans (hq j hj)
  have hB : ∀ j, j < 45 → own_ff (qu (qu (qu (fun _ => (0 : Int32)) 0 (nar .char v2)) 1 (nar .char v3)) 2 (nar .char v4)) own_txt3 (3 + j) = own_li own_LIT j := fun j hj => (own_ffT _ _ (fun _ => (0 : Int32)) _ (own_chk3 j hj).1).trans (own_chk3 j hj).2
  have hr := own_r3 n0.2 n1.2 n2.2
  exact own_gR hA hr hB
theorem ob_0_59 (f_CS : Int32) (f_SF f_SS : Value) (p0 p1 : Int32) (p2 p3 : Int32) (v1 v2 : Int32) (v3 v4 : Int32) (b397 b425 b451 : Nat → Int32) (hn_CS : ¬ (f_CS = (0 : Int32))) (hr_f_SF : f_SF.isRef = true) (hr_f_SS : f_SS.isRef = true) (hv1 : (p0 &&& (3 : Int32)) = v1) (hv2 : (p1.toUInt32.toUInt16.toUInt32.toInt32) = v2) (hv3 : (p2.toUInt32.toUInt16.toUInt32.toInt32) = v3) (hv4 : (p3.toUInt32.toUInt16.toUInt32.toInt32) = v4) (c5 : ¬ (v1 = (0 : Int32))) (c45 : ¬ (v1 = (1 : Int32))) (c200 : ¬ (v1 = (2 : Int32))) (hLU378 : (255 : Int32) < v2 ∨ (255 : Int32) < v3 ∨ (255 : Int32) < v4) (hp405 : (∃ (b5_siU : Nat → Int32), ((∃ (b6_si4U : Nat → Int32), (own_u16 (qu (qu (qu (fun _ => (0 : Int32)) 0 (nar .char v2)) 1 (nar .char v3)) 2 (nar .char v4)) b6_si4U 3) ∧ b5_siU = b6_si4U)) ∧ b397 = b5_siU)) (hp433 : (∃ (b5_siU : Nat → Int32), ((∃ (b6_si4U : Nat → Int32), (own_u16 (own_ff (qu (qu (qu (fun _ => (0 : Int32)) 0 (nar .char v2)) 1 (nar .char v3)) 2 (nar .char v4)) own_txt3) b6_si4U 48) ∧ b5_siU = b6_si4U)) ∧ b425 = b5_siU)) (hp468 : (∃ (b49_noU : Nat → Int32), ((∃ (b4_a10G : Nat → Int32), ((∃ (b26_ap10G : Nat → Int32), ((∃ (b5_ps10 : Nat → Int32), ((∃ (b6_gb01 : Nat → Int32), ((∃ (b2_slL : Nat → Int32), (own_inf (own_li own_LIT) (own_cp (own_cp b397 0 (fun _ => (0 : Int32)) 0 6) 0 (fun _ => (0 : Int32)) 0 32) b2_slL 3 45) ∧ b6_gb01 = b2_slL)) ∧ b5_ps10 = b6_gb01)) ∧ b26_ap10G = b5_ps10)) ∧ b4_a10G = b26_ap10G)) ∧ b49_noU = b4_a10G)) ∧ b451 = b49_noU)) : ∀ j, j < 96 → b451 j = b425 j := by
  have n0 := own_nc hv2
  have n1 := own_nc hv3
  have n2 := own_nc hv4
  have hq := own_q3 n0.1 n1.1 n2.1
  have hA : ∀ j, j < 3 → own_ff (qu (qu (qu (fun _ => (0 : Int32)) 0 (nar .char v2)) 1 (nar .char v3)) 2 (nar .char v4)) own_txt3 j = own_v3 v2 v3 v4 j := fun j hj => (own_ffF _ _ _ (own_not3 j hj)).trans (hq j hj)
  have hB : ∀ j, j < 45 → own_ff (qu (qu (qu (fun _ => (0 : Int32)) 0 (nar .char v2)) 1 (nar .char v3)) 2 (nar .char v4)) own_txt3 (3 + j) = own_li own_LIT j := fun j hj => (own_ffT _ _ (fun _ => (0 : Int32)) _ (own_chk3 j hj).1).trans (own_chk3 j hj).2
  obtain ⟨_, ⟨_, ⟨_, ⟨_, ⟨_, ⟨_, hX_hp468, rfl⟩, rfl⟩, rfl⟩, rfl⟩, rfl⟩, rfl⟩ := hp468
  obtain ⟨_, ⟨_, hX_hp405, rfl⟩, rfl⟩ := hp405
  obtain ⟨_, ⟨_, hX_hp433, rfl⟩, rfl⟩ := hp433
  exact own_finU 3 (by decide) (own_pU hA (hX_hp405) hq) hB hX_hp468 hX_hp433
theorem ob_0_60 (f_CS : Int32) (f_SF f_SS : Value) (p0 p1 : Int32) (p2 p3 : Int32) (v1 v2 : Int32) (v3 v4 : Int32) (hn_CS : ¬ (f_CS = (0 : Int32))) (hr_f_SF : f_SF.isRef = true) (hr_f_SS : f_SS.isRef = true) (hv1 : (p0 &&& (3 : Int32)) = v1) (hv2 : (p1.toUInt32.toUInt16.toUInt32.toInt32) = v2) (hv3 : (p2.toUInt32.toUInt16.toUInt32.toInt32) = v3) (hv4 : (p3.toUInt32.toUInt16.toUInt32.toInt32) = v4) (c5 : ¬ (v1 = (0 : Int32))) (c45 : ¬ (v1 = (1 : Int32))) (c200 : ¬ (v1 = (2 : Int32))) (hLU378 : ¬ ((255 : Int32) < v2 ∨ (255 : Int32) < v3 ∨ (255 : Int32) < v4)) : ∀ j, j < 3 → ¬ ((255 : Int32) < (qu (qu (qu (fun _ => (0 : Int32)) 0 (nar .char v2)) 1 (nar .char v3)) 2 (nar .char v4)) j) := by
  have n0 := own_nc hv2
  have n1 := own_nc hv3
  have n2 := own_nc hv4
  have hq := own_q3 n0.1 n1.1 n2.1
  have hl := own_l3 hLU378
  exact fun j hj => by rw [hq j hj]; exact hl j hj
theorem ob_0_61 (f_CS : Int32) (f_SF f_SS : Value) (p0 p1 : Int32) (p2 p3 : Int32) (v1 v2 : Int32) (v3 v4 : Int32) (b492 : Nat → Int32) (hn_CS : ¬ (f_CS = (0 : Int32))) (hr_f_SF : f_SF.isRef = true) (hr_f_SS : f_SS.isRef = true) (hv1 : (p0 &&& (3 : Int32)) = v1) (hv2 : (p1.toUInt32.toUInt16.toUInt32.toInt32) = v2) (hv3 : (p2.toUInt32.toUInt16.toUInt32.toInt32) = v3) (hv4 : (p3.toUInt32.toUInt16.toUInt32.toInt32) = v4) (c5 : ¬ (v1 = (0 : Int32))) (c45 : ¬ (v1 = (1 : Int32))) (c200 : ¬ (v1 = (2 : Int32))) (hLU378 : ¬ ((255 : Int32) < v2 ∨ (255 : Int32) < v3 ∨ (255 : Int32) < v4)) (hp500 : (∃ (b5_siL : Nat → Int32), ((∃ (b6_si4L : Nat → Int32), (own_cL (qu (qu (qu (fun _ => (0 : Int32)) 0 (nar .char v2)) 1 (nar .char v3)) 2 (nar .char v4)) b6_si4L 3) ∧ b5_siL = b6_si4L)) ∧ b492 = b5_siL)) : ∀ j, j < 48 → ¬ ((255 : Int32) < (own_ff (qu (qu (qu (fun _ => (0 : Int32)) 0 (nar .char v2)) 1 (nar .char v3)) 2 (nar .char v4)) own_txt3) j) := by
  have n0 := own_nc hv2
  have n1 := own_nc hv3
  have n2 := own_nc hv4
  have hq := own_q3 n0.1 n1.1 n2.1
  have hA : ∀ j, j < 3 → own_ff (qu (qu (qu (fun _ => (0 : Int32)) 0 (nar .char v2)) 1 (nar .char v3)) 2 (nar .char v4)) own_txt3 j = own_v3 v2 v3 v4 j := fun j hj => (own_ffF _ _ _ (own_not3 j hj)).trans (hq j hj)
  have hB : ∀ j, j < 45 → own_ff (qu (qu (qu (fun _ => (0 : Int32)) 0 (nar .char v2)) 1 (nar .char v3)) 2 (nar .char v4)) own_txt3 (3 + j) = own_li own_LIT j := fun j hj => (own_ffT _ _ (fun _ => (0 : Int32)) _ (own_chk3 j hj).1).trans (own_chk3 j hj).2
  have hl := own_l3 hLU378
  exact own_gL hA hl hB
theorem ob_0_62 (f_CS : Int32) (f_SF f_SS : Value) (p0 p1 : Int32) (p2 p3 : Int32) (v1 v2 : Int32) (v3 v4 : Int32) (b492 b517 : Nat → Int32) (hn_CS : ¬ (f_CS = (0 : Int32))) (hr_f_SF : f_SF.isRef = true) (hr_f_SS : f_SS.isRef = true) (hv1 : (p0 &&& (3 : Int32)) = v1) (hv2 : (p1.toUInt32.toUInt16.toUInt32.toInt32) = v2) (hv3 : (p2.toUInt32.toUInt16.toUInt32.toInt32) = v3) (hv4 : (p3.toUInt32.toUInt16.toUInt32.toInt32) = v4) (c5 : ¬ (v1 = (0 : Int32))) (c45 : ¬ (v1 = (1 : Int32))) (c200 : ¬ (v1 = (2 : Int32))) (hLU378 : ¬ ((255 : Int32) < v2 ∨ (255 : Int32) < v3 ∨ (255 : Int32) < v4)) (hp500 : (∃ (b5_siL : Nat → Int32), ((∃ (b6_si4L : Nat → Int32), (own_cL (qu (qu (qu (fun _ => (0 : Int32)) 0 (nar .char v2)) 1 (nar .char v3)) 2 (nar .char v4)) b6_si4L 3) ∧ b5_siL = b6_si4L)) ∧ b492 = b5_siL)) (hp525 : (∃ (b5_siL : Nat → Int32), ((∃ (b6_si4L : Nat → Int32), (own_cL (own_ff (qu (qu (qu (fun _ => (0 : Int32)) 0 (nar .char v2)) 1 (nar .char v3)) 2 (nar .char v4)) own_txt3) b6_si4L 48) ∧ b5_siL = b6_si4L)) ∧ b517 = b5_siL)) : ∀ j, j < 48 → (own_cp (own_li own_LIT) 0 (own_cp (own_cp b492 0 (fun _ => (0 : Int32)) 0 3) 0 (fun _ => (0 : Int32)) 0 16) 3 45) j = b517 j := by
  have n0 := own_nc hv2
  have n1 := own_nc hv3
  have n2 := own_nc hv4
  have hq := own_q3 n0.1 n1.1 n2.1
  have hA : ∀ j, j < 3 → own_ff (qu (qu (qu (fun _ => (0 : Int32)) 0 (nar .char v2)) 1 (nar .char v3)) 2 (nar .char v4)) own_txt3 j = own_v3 v2 v3 v4 j := fun j hj => (own_ffF _ _ _ (own_not3 j hj)).trans (hq j hj)
  have hB : ∀ j, j < 45 → own_ff (qu (qu (qu (fun _ => (0 : Int32)) 0 (nar .char v2)) 1 (nar .char v3)) 2 (nar .char v4)) own_txt3 (3 + j) = own_li own_LIT j := fun j hj => (own_ffT _ _ (fun _ => (0 : Int32)) _ (own_chk3 j hj).1).trans (own_chk3 j hj).2
  obtain ⟨_, ⟨_, hX_hp500, rfl⟩, rfl⟩ := hp500
  obtain ⟨_, ⟨_, hX_hp525, rfl⟩, rfl⟩ := hp525
  exact own_finL 3 (by decide) (own_pL hA (hX_hp500) hq) hB hX_hp525
def Q0 (Z : State) (f_CS : Int32) (f_SF : Value) (f_US : Addr) (f_SS : Value) (p0 p1 : Int32) (p2 p3 : Int32) (h0 : Heap) (n0 : Nat) (v : Option Value) (h : Heap) (L : List Loc) : Prop := v = some (.int 1) ∧ Fr n0 L
theorem rm0 (l : Launch) (Z : State) (A0 : Array Value) (hw : ∀ d ∈ tables_1, d.before A0 Z = true) (ws : List Jvm.Cond) (f_CS : Int32) (f_SF : Value) (f_US : Addr) (f_SS : Value) (p0 p1 : Int32) (p2 p3 : Int32) (h0 : Heap) (n0 : Nat) (Z0 : n0 ≤ h0.size) (P_S_CS : Sta Z h0 cS "COMPACT_STRINGS" "Z" (.int f_CS)) (hn_CS : ¬ (f_CS = (0 : Int32))) (P_S_SF : Sta Z h0 "jdk/internal/util/Preconditions" "SIOOBE_FORMATTER" "Ljava/util/function/BiFunction;" f_SF) (hr_f_SF : f_SF.isRef = true) (P_S_UD : Sta Z h0 cU "$assertionsDisabled" "Z" (.int 1)) (P_S_HI_BYTE_SHIFT : Sta Z h0 cU "HI_BYTE_SHIFT" "I" (.int 0)) (P_S_LO_BYTE_SHIFT : Sta Z h0 cU "LO_BYTE_SHIFT" "I" (.int 8)) (P_S_US : Sta Z h0 "java/lang/Throwable" "UNASSIGNED_STACK" "[Ljava/lang/StackTraceElement;" (.ref f_US)) (P_S_SS : Sta Z h0 "java/lang/Throwable" "SUPPRESSED_SENTINEL" "Ljava/util/List;" f_SS) (hr_f_SS : f_SS.isRef = true) (P_T : ThS Z h0) (hl0 : l.stackTraces = true) :
    MetFree l x (head1 (Jvm.Cond.code x code maxLocals ret :: ws) room_1) (fun a U => a = #[(.int p0), (.int p1), (.int p2), (.int p3)] ∧ Z.Warmed39 U.vm ∧ U.heap = h0 ∧ CHv Z consts_1 U.vm h0) (fun _ _ bl s _ => s.vm.MethodsKnown ∧ s.vm.FramesKnown bl) (fun _ U o U' => ∃ v L, o = .returned v ∧ Q0 Z f_CS f_SF f_US f_SS p0 p1 p2 p3 h0 n0 v U'.heap L ∧ CHr Z consts_1 U.vm U.heap U'.vm U'.heap ∧ ReturnedEndW U o U' L 48 9600) := by
 refine MetFree.of_bodySF (plainFor_of_name pn_0) hisR ?_
 intro p e s m args below meth c s₁ Bd hml0 hP hK
 obtain ⟨rfl, hZ, hh, hC0⟩ := hP
 have hwd := fun i {d : Jvm.Cond} (h : tables_1[i]? = some d) => hw d (List.mem_of_getElem? h)
 have hx := Bd.exec
 have hby := Bd.bytes
 have hml : c.maxLocals = 12 := hml0
 have hlk : meth.locks = false := Bd.notSynchronized
 have hown : s.vm.findClass "com/example/model_check_sql/modelchecksql/model/ModelReadingNoStatePinLaw" = some m.cls := findClass_of_methodNamed Bd.named
 have hnm := (name_of_methodNamed Bd.named Bd.method).1
 have X0 : Stand p l e room_1 (s.setVm s.vm) m #[(.int p0), (.int p1), (.int p2), (.int p3)] below meth c s₁ [] 0 0 := Stand.of_body Bd
 have e0 : s₁.heap = h0 := by rw [← hh, Bd.state]; rfl
 have N0 := Fr.nil n0
 have hEL := own_EW hw
 have hwS := fun a ha => hw a (own_atoms a ha)
 have CR0 : CHr Z consts_1 s.vm h0 s.vm h0 := CHr.refl hC0
 obtain ⟨kc0, hkc0⟩ : ∃ z, z = h0.size := ⟨_, rfl⟩
 have hk0 : kc0 ≤ h0.size := Nat.le_of_eq hkc0
 have hS : s.Since s.vm kc0 := own_since s kc0
 show qG p e below (own_FinW Z consts_1 s 48 9600 (Q0 Z f_CS f_SF f_US f_SS p0 p1 p2 p3 h0 n0)) _
 refine qb (fun t k => castTop (ef_0 m p0 p1 p2 p3) k) ?_
 show qG p e below _ (s₁.setTop (mkF m 0 #[vI p0, vI p1, vI p2, vI p3, .unset, .unset, .unset, .unset, .unset, .unset, .unset, .unset] []))
 refine qb (fun _ k => XS.iloadN X0.here hx rfl (hb hby at_0) rfl k) ?_
 refine qb (fun _ k => XS.iconst X0.here hx rfl (hb hby at_1) k) ?_
 refine qb (fun _ k => XS.iand X0.here hx rfl (hb hby at_2) rfl k) ?_
 refine qb (fun _ k => XS.istore X0.here hx rfl (hb hby at_3) rfl (l' := #[vI p0, vI p1, vI p2, vI p3, vI (p0 &&& (3 : Int32)), .unset, .unset, .unset, .unset, .unset, .unset, .unset]) rfl k) ?_
 show qG p e below _ (s₁.setTop (mkF m 5 #[vI p0, vI p1, vI p2, vI p3, vI (p0 &&& (3 : Int32)), .unset, .unset, .unset, .unset, .unset, .unset, .unset] []))
 generalize hv1 : (p0 &&& (3 : Int32)) = v1
 show qG p e below _ (s₁.setTop (mkF m 5 #[vI p0, vI p1, vI p2, vI p3, vI v1, .unset, .unset, .unset, .unset, .unset, .unset, .unset] []))
 refine qb (fun _ k => XS.iloadN X0.here hx rfl (hb hby at_5) rfl k) ?_
 refine qb (fun _ k => XS.i2c X0.here hx rfl (hb hby at_6) rfl k) ?_
 refine qb (fun _ k => XS.istore X0.here hx rfl (hb hby at_7) rfl (l' := #[vI p0, vI p1, vI p2, vI p3, vI v1, vI (p1.toUInt32.toUInt16.toUInt32.toInt32), .unset, .unset, .unset, .unset, .unset, .unset]) rfl k) ?_
 show qG p e below _ (s₁.setTop (mkF m 9 #[vI p0, vI p1, vI p2, vI p3, vI v1, vI (p1.toUInt32.toUInt16.toUInt32.toInt32), .unset, .unset, .unset, .unset, .unset, .unset] []))
 generalize hv2 : (p1.toUInt32.toUInt16.toUInt32.toInt32) = v2
 show qG p e below _ (s₁.setTop (mkF m 9 #[vI p0, vI p1, vI p2, vI p3, vI v1, vI v2, .unset, .unset, .unset, .unset, .unset, .unset] []))
 refine qb (fun _ k => XS.iloadN X0.here hx rfl (hb hby at_9) rfl k) ?_
 refine qb (fun _ k => XS.i2c X0.here hx rfl (hb hby at_10) rfl k) ?_
 refine qb (fun _ k => XS.istore X0.here hx rfl (hb hby at_11) rfl (l' := #[vI p0, vI p1, vI p2, vI p3, vI v1, vI v2, vI (p2.toUInt32.toUInt16.toUInt32.toInt32), .unset, .unset, .unset, .unset, .unset]) rfl k) ?_
 show qG p e below _ (s₁.setTop (mkF m 13 #[vI p0, vI p1, vI p2, vI p3, vI v1, vI v2, vI (p2.toUInt32.toUInt16.toUInt32.toInt32), .unset, .unset, .unset, .unset, .unset] []))
 generalize hv3 : (p2.toUInt32.toUInt16.toUInt32.toInt32) = v3
 show qG p e below _ (s₁.setTop (mkF m 13 #[vI p0, vI p1, vI p2, vI p3, vI v1, vI v2, vI v3, .unset, .unset, .unset, .unset, .unset] []))
 refine qb (fun _ k => XS.iloadN X0.here hx rfl (hb hby at_13) rfl k) ?_
 refine qb (fun _ k => XS.i2c X0.here hx rfl (hb hby at_14) rfl k) ?_
 refine qb (fun _ k => XS.istore X0.here hx rfl (hb hby at_15) rfl (l' := #[vI p0, vI p1, vI p2, vI p3, vI v1, vI v2, vI v3, vI (p3.toUInt32.toUInt16.toUInt32.toInt32), .unset, .unset, .unset, .unset]) rfl k) ?_
 show qG p e below _ (s₁.setTop (mkF m 17 #[vI p0, vI p1, vI p2, vI p3, vI v1, vI v2, vI v3, vI (p3.toUInt32.toUInt16.toUInt32.toInt32), .unset, .unset, .unset, .unset] []))
 generalize hv4 : (p3.toUInt32.toUInt16.toUInt32.toInt32) = v4
 show qG p e below _ (s₁.setTop (mkF m 17 #[vI p0, vI p1, vI p2, vI p3, vI v1, vI v2, vI v3, vI v4, .unset, .unset, .unset, .unset] []))
 refine qb (fun _ k => XS.iload X0.here hx rfl (hb hby at_17) rfl k) ?_
 by_cases c5 : v1 = (0 : Int32)
 ·skip
  refine qb (fun _ k => XS.ifNo X0.here hx rfl (hb hby at_19) rfl ((if0 _ _).trans (teq c5).2) k) ?_
  show qG p e below _ (s₁.setTop (mkF m 22 #[vI p0, vI p1, vI p2, vI p3, vI v1, vI v2, vI v3, vI v4, .unset, .unset, .unset, .unset] []))
  obtain ⟨b6, T6, h6, kc6, t6, kk6, X6, e6, E6, hS, hk6, hZ, hown, A6, C6, F6, V6, lt6, ltb6, R6, Li6, -, st6⟩ := ldcCH X0 hx hZ hown (hwd 0 rfl) hwS e0 hS hk0 hEL (by decide) CR0.1 (vs := ([] : List Int32).map Value.int) (z := (0 : Int32)) ⟨by decide, by decide⟩ (by decide) (by decide) (g := (mkF m 22 #[vI p0, vI p1, vI p2, vI p3, vI v1, vI v2, vI v3, vI v4, .unset, .unset, .unset, .unset] [])) rfl (hb hby at_22) (n := 0) (by decide) (by decide) (by decide) (by decide)
  have V6' : qA Z h6 t6 kk6 .byte (0 : Int32) (fun i => .int ((own_li []) i)) := own_arfLi V6
  have CR6 : CHr Z consts_1 s.vm h0 T6.vm h6 := CR0.trans R6
  have K6 : Keep h0 h6 [] := (Keep.refl h0 []).ext E6
  have Z6 := ql Z0 E6.1
  refine qb st6 ?_
  refine qb (fun _ k => XS.astore X6.here hx rfl (hb hby at_24) rfl rfl (l' := #[vI p0, vI p1, vI p2, vI p3, vI v1, vI v2, vI v3, vI v4, vR b6, .unset, .unset, .unset]) rfl k) ?_
  show qG p e below _ (T6.setTop (mkF m 26 #[vI p0, vI p1, vI p2, vI p3, vI v1, vI v2, vI v3, vI v4, vR b6, .unset, .unset, .unset] []))
  obtain ⟨b7, T7, h7, kc7, t7, kk7, X7, e7, E7, hS, hk7, hZ, hown, A7, C7, F7, V7, lt7, ltb7, R7, Li7, -, st7⟩ := ldcCH X6 hx hZ hown (hwd 8 rfl) hwS e6 hS hk6 hEL (by decide) CR6.1 (vs := (own_LIT : List Int32).map Value.int) (z := (45 : Int32)) ⟨by decide, by decide⟩ (by decide) (by decide) (g := (mkF m 26 #[vI p0, vI p1, vI p2, vI p3, vI v1, vI v2, vI v3, vI v4, vR b6, .unset, .unset, .unset] [])) rfl (hb hby at_26) (n := 180) (by decide) (by decide) (by decide) (by decide)
  have V7' : qA Z h7 t7 kk7 .byte (45 : Int32) (fun i => .int ((own_li own_LIT) i)) := own_arfLi V7
  have CR7 : CHr Z consts_1 s.vm h0 T7.vm h7 := CR6.trans R7
  have K7 : Keep h0 h7 [] := K6.ext E7
  have Z7 := ql Z6 E7.1
  refine qb st7 ?_
  refine qb (fun _ k => XS.astore X7.here hx rfl (hb hby at_28) rfl rfl (l' := #[vI p0, vI p1, vI p2, vI p3, vI v1, vI v2, vI v3, vI v4, vR b6, vR b7, .unset, .unset]) rfl k) ?_
  show qG p e below _ (T7.setTop (mkF m 30 #[vI p0, vI p1, vI p2, vI p3, vI v1, vI v2, vI v3, vI v4, vR b6, vR b7, .unset, .unset] []))
  refine qb (fun _ k => XS.goto X7.here hx rfl (pc0 := 30) (pc' := 974) rfl (hb hby at_30) (by decide) (by decide) k) ?_
  show qG p e below _ (T7.setTop (mkF m 974 #[vI p0, vI p1, vI p2, vI p3, vI v1, vI v2, vI v3, vI v4, vR b6, vR b7, .unset, .unset] []))
  refine qb (fun _ k => XS.aload X7.here hx rfl (hb hby at_974) rfl rfl k) ?_
  have F8 := (A6.ext E7)
  have F9 := (C6.ext E7)
  have F10 := (F6.ext E7)
  have F11 := (V6'.ext E7)
  have F12 := ((P_S_CS.ext E6).ext E7)
  have F13 := ((P_S_US.ext E6).ext E7)
  have F14 := ((P_S_SS.ext E6).ext E7)
  have F15 := ((P_T.ext E6).ext E7)
  obtain ⟨_, _, ⟨T16, L16, k16, n16⟩, -, X16', hSq16, hgr16, ⟨Lc16, hQ16, l16, y16, z16, R16⟩, st16⟩ := callSS X7 hx (y := (⟨"com/example/model_check_sql/modelchecksql/model/ModelReading", "noState", "(Ljava/lang/String;)Lcom/example/model_check_sql/modelchecksql/model/ModelFormatException;"⟩ : MethodName)) hown (mvT hZ (hwd 9 rfl)) (mvT hZ (hwd 10 rfl)) (mvT hZ (hwd 11 rfl)) (mvT hZ (hwd 12 rfl)) (by decide) (backOfSKH (W := 0) (rmnoL l Z A0 hw [] t6 kk6 (0 : Int32) (own_li []) f_CS f_US f_SS b6 h7 n0 Z7 F8 F9 F10 F11 F12 hn_CS F13 F14 hr_f_SS F15 (show ¬ ((0 : Int32) < (-16 : Int32)) by decide) (show ¬ (0 : Int32) < 0 by decide) (show 0 + 0 ≤ 0 by decide) (show 0 + 0 ≤ 16 by decide) (show (0 : Int32) < (29 : Int32) by decide) (show ¬ ((29 : Int32) < (18 : Int32)) by decide) (show (0 : Int32) < (45 : Int32) by decide) (show ¬ ((2147483639 : Int32) < (45 : Int32)) by decide) (show ¬ ((45 : Int32) = (2147483647 : Int32)) by decide) (show ¬ ((45 : Int32) = (16 : Int32)) by decide) (show ¬ ((45 : Int32) < (0 : Int32)) by decide) (show 45 ≤ 96 by decide) (show ¬ ((45 : Int32) < (16 : Int32)) by decide) (show 0 + 16 ≤ 45 by decide) (show ¬ (0 : Int32) < 0 by decide) (show 0 + 45 ≤ 45 by decide) (show (45 : Int32) = (45 : Int32) by decide) hl0) hZ (hwd 12 rfl) (hwd 11 rfl) (by decide) (by decide) hEL CR7.1 (hK.1.alikeC hS.1.alike) (hK.2.alikeC hS.1.alike)) (g := (mkF m 976 #[vI p0, vI p1, vI p2, vI p3, vI v1, vI v2, vI v3, vI v4, vR b6, vR b7, .unset, .unset] [(.ref b6)])) rfl (by rw [hml]; rfl) (argsL := [(.ref b6)]) (rest := []) (lenOf pd_9 rfl) rfl (by show 2 * 0 + _ ≤ _; exact Nat.le_of_eq rfl) (hb hby at_976) (fun _ _ => ⟨rfl, e7, (by decide : 4 + 9 ≤ _), (by decide : 188 + 3158 ≤ _)⟩)
  dsimp only [Pt.U, Pt.locs, Pt.cells, Pt.slots] at X16' l16 y16 z16 st16 hQ16 hSq16 hgr16 R16
  subst l16 y16 z16
  obtain ⟨X16, hS, hZ, hown⟩ := rebS hS (by rw [e7]; exact hk7) X16' hSq16 hgr16 hZ hown
  obtain ⟨kc16, hkc16⟩ : ∃ z, z = T16.heap.size := ⟨_, rfl⟩
  rw [← hkc16] at hS
  have hk16 : kc16 ≤ T16.heap.size := Nat.le_of_eq hkc16
  have CR16 : CHr Z consts_1 s.vm h0 T16.vm T16.heap := CR7.trans R16
  obtain ⟨b17, b18, b19, b20, rfl, Nq16, Kq16, hp21, hp22, F23, F24, hp25, hp26, F27, F28, F29, hp30, hp31, F32, F33, hp34, hp35, hp36⟩ := hQ16
  have N16 := Fr.app N0 Nq16
  have K16 : Keep h0 T16.heap [] := K7.trans Kq16 (all0)
  have Z16 := ql Z7 Kq16.1
  have sz_b17 := ql K7.1 hp22
  have sz_b18 := ql K7.1 hp26
  have sz_b19 := ql K7.1 hp31
  refine qb (fun _ k => st16.trans k) ?_
  show qG p e below _ (T16.setTop (mkF m 979 #[vI p0, vI p1, vI p2, vI p3, vI v1, vI v2, vI v3, vI v4, vR b6, vR b7, .unset, .unset] [(.ref b17)]))
  refine qb (fun _ k => XS.astore X16.here hx rfl (hb hby at_979) rfl rfl (l' := #[vI p0, vI p1, vI p2, vI p3, vI v1, vI v2, vI v3, vI v4, vR b6, vR b7, vR b17, .unset]) rfl k) ?_
  show qG p e below _ (T16.setTop (mkF m 981 #[vI p0, vI p1, vI p2, vI p3, vI v1, vI v2, vI v3, vI v4, vR b6, vR b7, vR b17, .unset] []))
  refine qb (fun _ k => XS.aload X16.here hx rfl (hb hby at_981) rfl rfl k) ?_
  refine qb (fun _ k => XS.ifnonnullYes X16.here hx rfl (pc0 := 983) (pc' := 988) rfl (hb hby at_983) rfl (by decide) (by decide) k) ?_
  show qG p e below _ (T16.setTop (mkF m 988 #[vI p0, vI p1, vI p2, vI p3, vI v1, vI v2, vI v3, vI v4, vR b6, vR b7, vR b17, .unset] []))
  refine qb (fun _ k => XS.aload X16.here hx rfl (hb hby at_988) rfl rfl k) ?_
  obtain ⟨cq37, kq37, qq37a, qq37b, qq37c⟩ := isOf hZ rfl F23
  obtain ⟨_, _, ⟨T37, L37, k37, n37⟩, -, X37, ⟨Lc37, hQ37, l37, y37, z37⟩, st37⟩ := X16.virtualBackUp hx (x := (⟨"com/example/model_check_sql/modelchecksql/model/ModelFormatException", "getMessage", "()Ljava/lang/String;"⟩ : MethodName)) (y := (⟨"java/lang/Throwable", "getMessage", "()Ljava/lang/String;"⟩ : MethodName)) (owner := "java/lang/Throwable") hown (mvT hZ (hwd 217 rfl)) (mvT hZ (hwd 218 rfl)) (mvT hZ (hwd 219 rfl)) (by decide) (mvT hZ (hwd 221 rfl)) (mvT hZ (hwd 220 rfl)) (backOf (W := 0) (rmgetm l Z A0 hw [] b17 b18 T16.heap n0 Z16 F24) hZ (hwd 222 rfl) (hwd 178 rfl) (by decide) (by decide)) qq37a qq37c (g := (mkF m 990 #[vI p0, vI p1, vI p2, vI p3, vI v1, vI v2, vI v3, vI v4, vR b6, vR b7, vR b17, .unset] [(.ref b17)])) rfl (by rw [hml]; rfl) (Steps.refl _) (argsL := []) (rest := []) (lenOf pd_110 rfl) rfl (by show 2 * 0 + _ ≤ _; exact Nat.le_of_eq rfl) (hb hby at_990) (fun _ _ => ⟨rfl, rfl, (by decide : 13 + 0 ≤ _), (by decide : 3346 + 0 ≤ _)⟩)
  dsimp only [Pt.U, Pt.locs, Pt.cells, Pt.slots] at X37 l37 y37 z37 st37 hQ37
  subst l37 y37 z37
  obtain ⟨rfl, Nq37, eq37⟩ := hQ37
  have N37 := Fr.app N16 Nq37
  refine qb (fun _ k => st37.trans k) ?_
  show qG p e below _ (T37.setTop (mkF m 993 #[vI p0, vI p1, vI p2, vI p3, vI v1, vI v2, vI v3, vI v4, vR b6, vR b7, vR b17, .unset] [(.ref b18)]))
  refine qb (fun _ k => XS.astore X37.here hx rfl (hb hby at_993) rfl rfl (l' := #[vI p0, vI p1, vI p2, vI p3, vI v1, vI v2, vI v3, vI v4, vR b6, vR b7, vR b17, vR b18]) rfl k) ?_
  show qG p e below _ (T37.setTop (mkF m 995 #[vI p0, vI p1, vI p2, vI p3, vI v1, vI v2, vI v3, vI v4, vR b6, vR b7, vR b17, vR b18] []))
  refine qb (fun _ k => XS.aload X37.here hx rfl (hb hby at_995) rfl rfl k) ?_
  refine qb (fun _ k => XS.ifnullNo X37.here hx rfl (hb hby at_997) rfl k) ?_
  show qG p e below _ (T37.setTop (mkF m 1000 #[vI p0, vI p1, vI p2, vI p3, vI v1, vI v2, vI v3, vI v4, vR b6, vR b7, vR b17, vR b18] []))
  refine qb (fun _ k => XS.aload X37.here hx rfl (hb hby at_1000) rfl rfl k) ?_
  refine qb (fun _ k => XS.aload X37.here hx rfl (hb hby at_1002) rfl rfl k) ?_
  have F38 := (A7.keep Kq16)
  have F39 := (C7.keep Kq16 nin0)
  have F40 := (F7.keep Kq16 nin0)
  have F41 := (V7'.keep Kq16 nin0)
  have F42 := qk F12 Kq16 all0
  obtain ⟨_, T43, Lc43, X43, hQ43, st43⟩ := own_cV X37 hx hZ hown hml (rmeqL l Z A0 hw [] b19 b20 (45 : Int32) (own_cp (own_li own_LIT) 0 (own_cp (own_cp (own_li []) 0 (fun _ => (0 : Int32)) 0 0) 0 (fun _ => (0 : Int32)) 0 16) 0 45) t7 kk7 (own_li own_LIT) f_CS b18 b7 T16.heap n0 Z16 F27 F28 F29 F32 F38 F39 F40 F41 F42 hn_CS (ob_0_41 f_CS f_SF f_SS p0 p1 p2 p3 v1 v2 v3 v4 hn_CS hr_f_SF hr_f_SS hv1 hv2 hv3 hv4 c5) (qm V7'.lt hp31)) (hwd 223 rfl) (hwd 225 rfl) (hwd 1 rfl) (hwd 227 rfl) (by decide) pd_223 eq37 (hwd 224 rfl) (hwd 226 rfl) F27 (g := (mkF m 1004 #[vI p0, vI p1, vI p2, vI p3, vI v1, vI v2, vI v3, vI v4, vR b6, vR b7, vR b17, vR b18] [(.ref b7), (.ref b18)])) (rest := []) rfl rfl rfl rfl (hb hby at_1004) rfl
  obtain ⟨rfl, Nq43, Kq43, hp44⟩ := hQ43
  have N43 := Fr.app N37 Nq43
  have R43 : CHr Z consts_1 T16.vm T16.heap T16.vm T43.heap := CHr.keep Kq43 (all0) CR16.1
  have CR43 : CHr Z consts_1 s.vm h0 T16.vm T43.heap := CR16.trans R43
  have hk43 : kc16 ≤ T43.heap.size := ql hk16 Kq43.1
  have K43 : Keep h0 T43.heap [] := K16.trans Kq43 (all0)
  have Z43 := ql Z16 Kq43.1
  refine qb st43 ?_
  show qG p e below _ (T43.setTop (mkF m 1007 #[vI p0, vI p1, vI p2, vI p3, vI v1, vI v2, vI v3, vI v4, vR b6, vR b7, vR b17, vR b18] [(.int 1)]))
  refine qb (fun _ k => XS.ifNo X43.here hx rfl (hb hby at_1007) rfl ((if0 _ _).trans (feq (by decide : ¬ ((1 : Int32) = (0 : Int32)))).1) k) ?_
  show qG p e below _ (T43.setTop (mkF m 1010 #[vI p0, vI p1, vI p2, vI p3, vI v1, vI v2, vI v3, vI v4, vR b6, vR b7, vR b17, vR b18] []))
  refine qb (fun _ k => XS.iconst X43.here hx rfl (hb hby at_1010) k) ?_
  refine qb (fun _ k => XS.goto X43.here hx rfl (pc0 := 1011) (pc' := 1015) rfl (hb hby at_1011) (by decide) (by decide) k) ?_
  show qG p e below _ (T43.setTop (mkF m 1015 #[vI p0, vI p1, vI p2, vI p3, vI v1, vI v2, vI v3, vI v4, vR b6, vR b7, vR b17, vR b18] [(.int 1)]))
  exact own_retNW X43 hx hS hk43 hZ hEL hh CR43 (t := .boolean) Bd.returns (by simp) (hb hby at_1015) hlk rfl ⟨rfl, N43⟩ (by decide) (by decide)
 ·skip
  refine qb (fun _ k => XS.ifYes X0.here hx rfl (pc0 := 19) (pc' := 33) rfl (hb hby at_19) rfl ((if0 _ _).trans (feq c5).2) (by decide) (by decide) k) ?_
  show qG p e below _ (s₁.setTop (mkF m 33 #[vI p0, vI p1, vI p2, vI p3, vI v1, vI v2, vI v3, vI v4, .unset, .unset, .unset, .unset] []))
  refine qb (fun _ k => XS.iload X0.here hx rfl (hb hby at_33) rfl k) ?_
  refine qb (fun _ k => XS.iconst X0.here hx rfl (hb hby at_35) k) ?_
  by_cases c45 : v1 = (1 : Int32)
  ·skip
   refine qb (fun _ k => XS.icmpNo X0.here hx rfl (hb hby at_36) rfl (teq c45).2 k) ?_
   show qG p e below _ (s₁.setTop (mkF m 39 #[vI p0, vI p1, vI p2, vI p3, vI v1, vI v2, vI v3, vI v4, .unset, .unset, .unset, .unset] []))
   by_cases hLU46 : (255 : Int32) < v2
   ·skip
    show qG p e below _ (s₁.setTop (mkF m 39 #[vI p0, vI p1, vI p2, vI p3, vI v1, vI v2, vI v3, vI v4, .unset, .unset, .unset, .unset] []))
    refine qb (fun _ k => XS.iload X0.here hx rfl (hb hby at_39) rfl k) ?_
    obtain ⟨_, T47, Lc47, X47, hQ47, st47⟩ := own_cS X0 hx hZ hown hml (rmvoU l Z A0 hw [] f_CS v2 h0 n0 Z0 P_S_CS hn_CS P_S_UD P_S_HI_BYTE_SHIFT P_S_LO_BYTE_SHIFT hLU46) (hwd 300 rfl) (hwd 301 rfl) (hwd 1 rfl) (hwd 302 rfl) (by decide) pd_300 e0 (g := (mkF m 41 #[vI p0, vI p1, vI p2, vI p3, vI v1, vI v2, vI v3, vI v4, .unset, .unset, .unset, .unset] [(.int v2)])) (rest := []) rfl rfl rfl rfl (hb hby at_41) rfl
    obtain ⟨b48, b49, b50, rfl, Nq47, Kq47, hp51, hp52, F53, F54, F55, hp56, hp57, F58, F59, hp60⟩ := hQ47
    have N47 := Fr.app N0 Nq47
    have R47 : CHr Z consts_1 s.vm h0 s.vm T47.heap := CHr.keep Kq47 (all0) CR0.1
    have CR47 : CHr Z consts_1 s.vm h0 s.vm T47.heap := CR0.trans R47
    have hk47 : kc0 ≤ T47.heap.size := ql hk0 Kq47.1
    have K47 : Keep h0 T47.heap [] := (Keep.refl h0 []).trans Kq47 (all0)
    have Z47 := ql Z0 Kq47.1
    have sz_b48 := ql (Keep.refl h0 []).1 hp52
    have S_b48 : Safe Z consts_1 s.vm T47.heap b48 := Safe.keep Kq47 (all0) CR0.1 (Safe.new hp52)
    have lt_b48 := F53.lt
    have sz_b49 := ql (Keep.refl h0 []).1 hp57
    have S_b49 : Safe Z consts_1 s.vm T47.heap b49 := Safe.keep Kq47 (all0) CR0.1 (Safe.new hp57)
    have lt_b49 := F58.lt
    refine qb st47 ?_
    show qG p e below _ (T47.setTop (mkF m 44 #[vI p0, vI p1, vI p2, vI p3, vI v1, vI v2, vI v3, vI v4, .unset, .unset, .unset, .unset] [(.ref b48)]))
    refine qb (fun _ k => XS.astore X47.here hx rfl (hb hby at_44) rfl rfl (l' := #[vI p0, vI p1, vI p2, vI p3, vI v1, vI v2, vI v3, vI v4, vR b48, .unset, .unset, .unset]) rfl k) ?_
    show qG p e below _ (T47.setTop (mkF m 46 #[vI p0, vI p1, vI p2, vI p3, vI v1, vI v2, vI v3, vI v4, vR b48, .unset, .unset, .unset] []))
    obtain ⟨T61, h61, X61, e61, E61, A61, D61, -, st61⟩ := newO X47 hx hZ hown (hwd 233 rfl) (hwd 2 rfl) (hwd 1 rfl) rfl (g := (mkF m 46 #[vI p0, vI p1, vI p2, vI p3, vI v1, vI v2, vI v3, vI v4, vR b48, .unset, .unset, .unset] [])) rfl (hb hby at_46) (by decide) (by decide)
    obtain ⟨b61, g61⟩ : ∃ z, z = T47.heap.size := ⟨_, rfl⟩
    have ge_b61 : n0 ≤ b61 := ql Z47 (Nat.le_of_eq g61.symm)
    have sz_b61 := ql K47.1 (Nat.le_of_eq g61.symm)
    have R61 : CHr Z consts_1 s.vm T47.heap s.vm h61 := CHr.ext E61 CR47.1
    have CR61 : CHr Z consts_1 s.vm h0 s.vm h61 := CR47.trans R61
    have hk61 : kc0 ≤ h61.size := ql hk47 E61.1
    have S_b61 : Safe Z consts_1 s.vm h61 b61 := Safe.ext E61 CR47.1 (Safe.new (Nat.le_of_eq g61.symm))
    have K61 : Keep h0 h61 [] := K47.ext E61
    have Z61 := ql Z47 E61.1
    rw [← g61] at A61 D61 st61
    have lt_b61 := A61.lt
    have F_value_b61 : Fld Z h61 b61 cS "value" "[B" .null := D61 (Or.inr (hwd 4 rfl)) (ty := (.array .byte)) (by decide)
    have F_coder_b61 : Fld Z h61 b61 cS "coder" "B" (.int 0) := D61 (Or.inr (hwd 5 rfl)) (ty := .byte) (by decide)
    refine qb st61 ?_
    show qG p e below _ (T61.setTop (mkF m 49 #[vI p0, vI p1, vI p2, vI p3, vI v1, vI v2, vI v3, vI v4, vR b48, .unset, .unset, .unset] [(.ref b61)]))
    refine qb (fun _ k => XS.dup X61.here hx rfl (hb hby at_49) rfl rfl k) ?_
    refine qb (fun _ k => XS.bipush X61.here hx rfl (hb hby at_50) k) ?_
    obtain ⟨T62, h62, k62, X62, e62, E62, A62, Ax62, st62⟩ := newPE X61 hx hZ (hwd 234 rfl) e61 (g := (mkF m 52 #[vI p0, vI p1, vI p2, vI p3, vI v1, vI v2, vI v3, vI v4, vR b48, .unset, .unset, .unset] [(.int 46), (.ref b61), (.ref b61)])) rfl (hb hby at_52) rfl (by decide) (cap := 46) (by decide) (by decide) (by decide) (by decide) (ad := "[C") (by decide)
    obtain ⟨b62, g62⟩ : ∃ z, z = h61.size := ⟨_, rfl⟩
    have ge_b62 : n0 ≤ b62 := ql Z61 (Nat.le_of_eq g62.symm)
    have sz_b62 := ql K61.1 (Nat.le_of_eq g62.symm)
    have R62 : CHr Z consts_1 s.vm h61 s.vm h62 := CHr.ext E62 CR61.1
    have CR62 : CHr Z consts_1 s.vm h0 s.vm h62 := CR61.trans R62
    have hk62 : kc0 ≤ h62.size := ql hk61 E62.1
    have S_b62 : Safe Z consts_1 s.vm h62 b62 := Safe.ext E62 CR61.1 (Safe.new (Nat.le_of_eq g62.symm))
    have K62 : Keep h0 h62 [] := K61.ext E62
    have Z62 := ql Z61 E62.1
    rw [← g62] at A62 Ax62 st62
    have V62 : qA Z h62 b62 k62 .char (46 : Int32) (fun i => .int ((fun _ => (0 : Int32)) i)) := own_arfNew A62 (by decide)
    refine qb st62 ?_
    show qG p e below _ (T62.setTop (mkF m 54 #[vI p0, vI p1, vI p2, vI p3, vI v1, vI v2, vI v3, vI v4, vR b48, .unset, .unset, .unset] [(.ref b62), (.ref b61), (.ref b61)]))
    refine qb (fun _ k => XS.dup X62.here hx rfl (hb hby at_54) rfl rfl k) ?_
    refine qb (fun _ k => XS.iconst X62.here hx rfl (hb hby at_55) k) ?_
    refine qb (fun _ k => XS.iload X62.here hx rfl (hb hby at_56) rfl k) ?_
    obtain ⟨cl63, Ar63, qq63, S63, M63, H63, G63⟩ := id V62
    have hin63 : ¬ ((0 : Int32) < 0 ∨ cl63.slots.size ≤ ((0 : Int32)).toNatClampNeg) := inb_of S63 ⟨by decide, by decide⟩
    obtain ⟨T64, h64, X64, e64, W64, st64⟩ := stC X62 hx hZ e62 Ar63 (j := (0 : Int32)) hin63 (g := (mkF m 58 #[vI p0, vI p1, vI p2, vI p3, vI v1, vI v2, vI v3, vI v4, vR b48, .unset, .unset, .unset] [(.int v2), (.int 0), (.ref b62), (.ref b62), (.ref b61), (.ref b61)])) rfl rfl (hb hby at_58)
    have V64 : qA Z h64 b62 k62 .char (46 : Int32) (fun i => .int ((qu (fun _ => (0 : Int32)) 0 (nar .char v2)) i)) := own_arfSetI Ar63 qq63 S63 M63 H63 G63 (fits_nar_char _) W64
    have R64 : CHr Z consts_1 s.vm h62 s.vm h64 := CHr.wr W64 (own_arfSafe V62 hZ.alike (by decide)) CR62.1
    have CR64 : CHr Z consts_1 s.vm h0 s.vm h64 := CR62.trans R64
    have hk64 : kc0 ≤ h64.size := ql hk62 (Keep.of_wr W64).1
    have K64 : Keep h0 h64 [] := K62.wr W64 (Or.inr sz_b62)
    have Z64 := ql Z62 (Keep.of_wr W64).1
    have N64 := Fr.snoc X64 N47 ge_b62
    refine qb st64 ?_
    obtain ⟨T65, h65, L65, X65, e65, N65, Kq65, V65, st65⟩ := own_fill (Ls := #[vI p0, vI p1, vI p2, vI p3, vI v1, vI v2, vI v3, vI v4, vR b48, .unset, .unset, .unset]) (rest := [(.ref b61), (.ref b61)]) hx hZ ge_b62 own_txt1 59 _ _ _ (qu (fun _ => (0 : Int32)) 0 (nar .char v2)) X64 e64 V64 N64 (by rw [hby]; decide +kernel)
    have R65 : CHr Z consts_1 s.vm h64 s.vm h65 := CHr.keep Kq65 (allS (own_arfSafe V64 hZ.alike (by decide)) all0) CR64.1
    have CR65 : CHr Z consts_1 s.vm h0 s.vm h65 := CR64.trans R65
    have hk65 : kc0 ≤ h65.size := ql hk64 Kq65.1
    have K65 : Keep h0 h65 [] := K64.trans Kq65 ((allS (Or.inr sz_b62) all0))
    have Z65 := ql Z64 Kq65.1
    refine qb st65 ?_
    show qG p e below _ (T65.setTop (mkF m 324 #[vI p0, vI p1, vI p2, vI p3, vI v1, vI v2, vI v3, vI v4, vR b48, .unset, .unset, .unset] [(.ref b62), (.ref b61), (.ref b61)]))
    have F66 := (((A61.ext E62).wr W64).keep Kq65)
    have F67 := qk ((((qk P_S_CS Kq47 all0).ext E61).ext E62).wr W64) Kq65 (allS (qa V64) all0)
    have F68 := qk ((((qk P_S_UD Kq47 all0).ext E61).ext E62).wr W64) Kq65 (allS (qa V64) all0)
    have F69 := qk ((((qk P_S_HI_BYTE_SHIFT Kq47 all0).ext E61).ext E62).wr W64) Kq65 (allS (qa V64) all0)
    have F70 := qk ((((qk P_S_LO_BYTE_SHIFT Kq47 all0).ext E61).ext E62).wr W64) Kq65 (allS (qa V64) all0)
    have F71 := (((F_coder_b61.ext E62).other W64 (Or.inl (qn A61.lt (Nat.le_of_eq g62.symm)))).keep Kq65 (ninS (qn A61.lt (Nat.le_of_eq g62.symm)) nin0))
    have F72 := (((F_value_b61.ext E62).other W64 (Or.inl (qn A61.lt (Nat.le_of_eq g62.symm)))).keep Kq65 (ninS (qn A61.lt (Nat.le_of_eq g62.symm)) nin0))
    obtain ⟨_, T73, Lc73, X73, hQ73, st73⟩ := own_cI X65 hx hZ hown hml (rmsiU l Z A0 hw [] k62 (46 : Int32) (own_ff (qu (fun _ => (0 : Int32)) 0 (nar .char v2)) own_txt1) f_CS b61 b62 (0 : Int32) (.null) h65 n0 Z65 F66 V65 F67 hn_CS F68 F69 F70 (show 0 ≤ ((46 : Int32)).toInt ∧ ((46 : Int32)).toInt ≤ 48 by decide) (ob_0_42 f_CS f_SF f_SS p0 p1 p2 p3 v1 v2 v3 v4 hn_CS hr_f_SF hr_f_SS hv1 hv2 hv3 hv4 c5 c45 hLU46) (ob_0_43 f_CS f_SF f_SS p0 p1 p2 p3 v1 v2 v3 v4 hn_CS hr_f_SF hr_f_SS hv1 hv2 hv3 hv4 c5 c45 hLU46) F71 F72 (show ¬ ((46 : Int32) = (0 : Int32)) by decide) (show ¬ ((46 : Int32) < (0 : Int32)) by decide) (show 46 ≤ 48 by decide) (show (46 : Int32) < (1073741823 : Int32) by decide) (show ¬ ((92 : Int32) < (0 : Int32)) by decide) (show 92 ≤ 96 by decide) ge_b61) (hwd 235 rfl) (hwd 236 rfl) (hwd 1 rfl) (hwd 237 rfl) (by decide) pd_235 e65 rfl (g := (mkF m 324 #[vI p0, vI p1, vI p2, vI p3, vI v1, vI v2, vI v3, vI v4, vR b48, .unset, .unset, .unset] [(.ref b62), (.ref b61), (.ref b61)])) (rest := [(.ref b61)]) rfl rfl rfl rfl (hb hby at_324) rfl
    obtain ⟨b74, b75, b76, rfl, Nq73, Kq73, hp77, hp78, F79, F80, F81, F82, F83, hp84⟩ := hQ73
    have N73 := Fr.app N65 Nq73
    have R73 : CHr Z consts_1 s.vm h65 s.vm T73.heap := CHr.keep Kq73 ((allS (CHr.safe (R62.trans (R64.trans R65)) lt_b61 S_b61) all0)) CR65.1
    have CR73 : CHr Z consts_1 s.vm h0 s.vm T73.heap := CR65.trans R73
    have hk73 : kc0 ≤ T73.heap.size := ql hk65 Kq73.1
    have K73 : Keep h0 T73.heap [] := K65.trans Kq73 ((allS (Or.inr sz_b61) all0))
    have Z73 := ql Z65 Kq73.1
    have sz_b74 := ql K65.1 hp78
    have S_b74 : Safe Z consts_1 s.vm T73.heap b74 := Safe.keep Kq73 ((allS (CHr.safe (R62.trans (R64.trans R65)) lt_b61 S_b61) all0)) CR65.1 (Safe.new hp78)
    have lt_b74 := F82.lt
    refine qb st73 ?_
    show qG p e below _ (T73.setTop (mkF m 327 #[vI p0, vI p1, vI p2, vI p3, vI v1, vI v2, vI v3, vI v4, vR b48, .unset, .unset, .unset] [(.ref b61)]))
    refine qb (fun _ k => XS.astore X73.here hx rfl (hb hby at_327) rfl rfl (l' := #[vI p0, vI p1, vI p2, vI p3, vI v1, vI v2, vI v3, vI v4, vR b48, vR b61, .unset, .unset]) rfl k) ?_
    show qG p e below _ (T73.setTop (mkF m 329 #[vI p0, vI p1, vI p2, vI p3, vI v1, vI v2, vI v3, vI v4, vR b48, vR b61, .unset, .unset] []))
    refine qb (fun _ k => XS.goto X73.here hx rfl (pc0 := 329) (pc' := 974) rfl (hb hby at_329) (by decide) (by decide) k) ?_
    show qG p e below _ (T73.setTop (mkF m 974 #[vI p0, vI p1, vI p2, vI p3, vI v1, vI v2, vI v3, vI v4, vR b48, vR b61, .unset, .unset] []))
    refine qb (fun _ k => XS.aload X73.here hx rfl (hb hby at_974) rfl rfl k) ?_
    have F85 := (((((F53.ext E61).ext E62).wr W64).keep Kq65).keep Kq73)
    have F86 := (((((F55.ext E61).ext E62).other W64 (Or.inl (qn ((F53.ext E61)).lt (Nat.le_of_eq g62.symm)))).keep Kq65 (ninS (qn ((F53.ext E61)).lt (Nat.le_of_eq g62.symm)) nin0)).keep Kq73 (ninS (qn F53.lt (Nat.le_of_eq g61.symm)) nin0))
    have F87 := (((((F54.ext E61).ext E62).other W64 (Or.inl (qn ((F53.ext E61)).lt (Nat.le_of_eq g62.symm)))).keep Kq65 (ninS (qn ((F53.ext E61)).lt (Nat.le_of_eq g62.symm)) nin0)).keep Kq73 (ninS (qn F53.lt (Nat.le_of_eq g61.symm)) nin0))
    have F88 := (((((F59.ext E61).ext E62).other W64 (qn ((F59.ext E61)).lt (Nat.le_of_eq g62.symm))).keep Kq65 (ninS (qn ((F59.ext E61)).lt (Nat.le_of_eq g62.symm)) nin0)).keep Kq73 (ninS (qn F59.lt (Nat.le_of_eq g61.symm)) nin0))
    have F89 := qk F67 Kq73 (allS (qx F66) all0)
    have F90 := qk (qk ((((qk P_S_SF Kq47 all0).ext E61).ext E62).wr W64) Kq65 (allS (qa V64) all0)) Kq73 (allS (qx F66) all0)
    have F91 := qk F68 Kq73 (allS (qx F66) all0)
    have F92 := qk F69 Kq73 (allS (qx F66) all0)
    have F93 := qk F70 Kq73 (allS (qx F66) all0)
    have F94 := qk (qk ((((qk P_S_US Kq47 all0).ext E61).ext E62).wr W64) Kq65 (allS (qa V64) all0)) Kq73 (allS (qx F66) all0)
    have F95 := qk (qk ((((qk P_S_SS Kq47 all0).ext E61).ext E62).wr W64) Kq65 (allS (qa V64) all0)) Kq73 (allS (qx F66) all0)
    have F96 := (ThS.keep Kq73 (nsS (qx F66) ns0) (ThS.keep Kq65 (nsS (qa V64) ns0) ((((ThS.keep Kq47 ns0 P_T).ext E61).ext E62).wr W64)))
    obtain ⟨_, _, ⟨T97, L97, k97, n97⟩, -, X97', hSq97, hgr97, ⟨Lc97, hQ97, l97, y97, z97, R97⟩, st97⟩ := callSS X73 hx (y := (⟨"com/example/model_check_sql/modelchecksql/model/ModelReading", "noState", "(Ljava/lang/String;)Lcom/example/model_check_sql/modelchecksql/model/ModelFormatException;"⟩ : MethodName)) hown (mvT hZ (hwd 9 rfl)) (mvT hZ (hwd 10 rfl)) (mvT hZ (hwd 11 rfl)) (mvT hZ (hwd 12 rfl)) (by decide) (backOfSKH (W := 0) (rmnoU l Z A0 hw [] b49 b50 (2 : Int32) (qu (qu (fun _ => (0 : Int32)) 0 (nar .byte (v2.toInt8.toInt32))) 1 (nar .byte ((v2 >>> ((8 : Int32) &&& 31)).toInt8.toInt32))) f_CS f_SF f_US f_SS b48 T73.heap n0 Z73 F85 F86 F87 F88 F89 hn_CS F90 hr_f_SF F91 F92 F93 F94 F95 hr_f_SS F96 (show ¬ ((0 : Int32) < (-15 : Int32)) by decide) (show ¬ (2 : Int32) < 0 by decide) (show 0 + 2 ≤ 2 by decide) (show 0 + 2 ≤ 32 by decide) (show (0 : Int32) < (30 : Int32) by decide) (show ¬ ((60 : Int32) < (36 : Int32)) by decide) (show (0 : Int32) < (92 : Int32) by decide) (show ¬ ((2147483639 : Int32) < (92 : Int32)) by decide) (show ¬ ((92 : Int32) = (2147483647 : Int32)) by decide) (show ¬ ((92 : Int32) = (32 : Int32)) by decide) (show ¬ ((92 : Int32) < (0 : Int32)) by decide) (show 92 ≤ 96 by decide) (show ¬ ((92 : Int32) < (32 : Int32)) by decide) (show 0 + 32 ≤ 92 by decide) (show 0 ≤ ((1 : Int32)).toInt ∧ 0 ≤ ((45 : Int32)).toInt ∧ ((1 : Int32)).toInt + ((45 : Int32)).toInt ≤ 48 ∧ 2 * (((1 : Int32)).toInt + ((45 : Int32)).toInt) ≤ ((92 : Int32)).toInt by decide) (show ¬ ((47 : Int32) < (0 : Int32)) by decide) (show ¬ ((45 : Int32) < (45 : Int32)) by decide) (show (92 : Int32) = (92 : Int32) by decide) hl0) hZ (hwd 12 rfl) (hwd 11 rfl) (by decide) (by decide) hEL CR73.1 (hK.1.alikeC hS.1.alike) (hK.2.alikeC hS.1.alike)) (g := (mkF m 976 #[vI p0, vI p1, vI p2, vI p3, vI v1, vI v2, vI v3, vI v4, vR b48, vR b61, .unset, .unset] [(.ref b48)])) rfl (by rw [hml]; rfl) (argsL := [(.ref b48)]) (rest := []) (lenOf pd_9 rfl) rfl (by show 2 * 0 + _ ≤ _; exact Nat.le_of_eq rfl) (hb hby at_976) (fun _ _ => ⟨rfl, rfl, (by decide : 6 + 10 ≤ _), (by decide : 200 + 3254 ≤ _)⟩)
    dsimp only [Pt.U, Pt.locs, Pt.cells, Pt.slots] at X97' l97 y97 z97 st97 hQ97 hSq97 hgr97 R97
    subst l97 y97 z97
    obtain ⟨X97, hS, hZ, hown⟩ := rebS hS hk73 X97' hSq97 hgr97 hZ hown
    obtain ⟨kc97, hkc97⟩ : ∃ z, z = T97.heap.size := ⟨_, rfl⟩
    rw [← hkc97] at hS
    have hk97 : kc97 ≤ T97.heap.size := Nat.le_of_eq hkc97
    have CR97 : CHr Z consts_1 s.vm h0 T97.vm T97.heap := CR73.trans R97
    obtain ⟨b98, b99, b100, b101, b102, rfl, Nq97, Kq97, hp103, hp104, hp105, hp106, hp107, hp108, hp109, hp110, hp111, F112, F113, F114, F115, F116, F117, F118, hp119⟩ := hQ97
    have N97 := Fr.app N73 Nq97
    have K97 : Keep h0 T97.heap [] := K73.trans Kq97 (all0)
    have Z97 := ql Z73 Kq97.1
    have sz_b98 := ql K73.1 hp104
    have sz_b99 := ql K73.1 hp106
    have sz_b100 := ql K73.1 hp108
    refine qb (fun _ k => st97.trans k) ?_
    show qG p e below _ (T97.setTop (mkF m 979 #[vI p0, vI p1, vI p2, vI p3, vI v1, vI v2, vI v3, vI v4, vR b48, vR b61, .unset, .unset] [(.ref b98)]))
    refine qb (fun _ k => XS.astore X97.here hx rfl (hb hby at_979) rfl rfl (l' := #[vI p0, vI p1, vI p2, vI p3, vI v1, vI v2, vI v3, vI v4, vR b48, vR b61, vR b98, .unset]) rfl k) ?_
    show qG p e below _ (T97.setTop (mkF m 981 #[vI p0, vI p1, vI p2, vI p3, vI v1, vI v2, vI v3, vI v4, vR b48, vR b61, vR b98, .unset] []))
    refine qb (fun _ k => XS.aload X97.here hx rfl (hb hby at_981) rfl rfl k) ?_
    refine qb (fun _ k => XS.ifnonnullYes X97.here hx rfl (pc0 := 983) (pc' := 988) rfl (hb hby at_983) rfl (by decide) (by decide) k) ?_
    show qG p e below _ (T97.setTop (mkF m 988 #[vI p0, vI p1, vI p2, vI p3, vI v1, vI v2, vI v3, vI v4, vR b48, vR b61, vR b98, .unset] []))
    refine qb (fun _ k => XS.aload X97.here hx rfl (hb hby at_988) rfl rfl k) ?_
    obtain ⟨cq120, kq120, qq120a, qq120b, qq120c⟩ := isOf hZ rfl F112
    obtain ⟨_, _, ⟨T120, L120, k120, n120⟩, -, X120, ⟨Lc120, hQ120, l120, y120, z120⟩, st120⟩ := X97.virtualBackUp hx (x := (⟨"com/example/model_check_sql/modelchecksql/model/ModelFormatException", "getMessage", "()Ljava/lang/String;"⟩ : MethodName)) (y := (⟨"java/lang/Throwable", "getMessage", "()Ljava/lang/String;"⟩ : MethodName)) (owner := "java/lang/Throwable") hown (mvT hZ (hwd 217 rfl)) (mvT hZ (hwd 218 rfl)) (mvT hZ (hwd 219 rfl)) (by decide) (mvT hZ (hwd 221 rfl)) (mvT hZ (hwd 220 rfl)) (backOf (W := 0) (rmgetm l Z A0 hw [] b98 b99 T97.heap n0 Z97 F113) hZ (hwd 222 rfl) (hwd 178 rfl) (by decide) (by decide)) qq120a qq120c (g := (mkF m 990 #[vI p0, vI p1, vI p2, vI p3, vI v1, vI v2, vI v3, vI v4, vR b48, vR b61, vR b98, .unset] [(.ref b98)])) rfl (by rw [hml]; rfl) (Steps.refl _) (argsL := []) (rest := []) (lenOf pd_110 rfl) rfl (by show 2 * 0 + _ ≤ _; exact Nat.le_of_eq rfl) (hb hby at_990) (fun _ _ => ⟨rfl, rfl, (by decide : 16 + 0 ≤ _), (by decide : 3454 + 0 ≤ _)⟩)
    dsimp only [Pt.U, Pt.locs, Pt.cells, Pt.slots] at X120 l120 y120 z120 st120 hQ120
    subst l120 y120 z120
    obtain ⟨rfl, Nq120, eq120⟩ := hQ120
    have N120 := Fr.app N97 Nq120
    refine qb (fun _ k => st120.trans k) ?_
    show qG p e below _ (T120.setTop (mkF m 993 #[vI p0, vI p1, vI p2, vI p3, vI v1, vI v2, vI v3, vI v4, vR b48, vR b61, vR b98, .unset] [(.ref b99)]))
    refine qb (fun _ k => XS.astore X120.here hx rfl (hb hby at_993) rfl rfl (l' := #[vI p0, vI p1, vI p2, vI p3, vI v1, vI v2, vI v3, vI v4, vR b48, vR b61, vR b98, vR b99]) rfl k) ?_
    show qG p e below _ (T120.setTop (mkF m 995 #[vI p0, vI p1, vI p2, vI p3, vI v1, vI v2, vI v3, vI v4, vR b48, vR b61, vR b98, vR b99] []))
    refine qb (fun _ k => XS.aload X120.here hx rfl (hb hby at_995) rfl rfl k) ?_
    refine qb (fun _ k => XS.ifnullNo X120.here hx rfl (hb hby at_997) rfl k) ?_
    show qG p e below _ (T120.setTop (mkF m 1000 #[vI p0, vI p1, vI p2, vI p3, vI v1, vI v2, vI v3, vI v4, vR b48, vR b61, vR b98, vR b99] []))
    refine qb (fun _ k => XS.aload X120.here hx rfl (hb hby at_1000) rfl rfl k) ?_
    refine qb (fun _ k => XS.aload X120.here hx rfl (hb hby at_1002) rfl rfl k) ?_
    have F121 := (F79.keep Kq97)
    have F122 := (F80.keep Kq97 nin0)
    have F123 := (F81.keep Kq97 nin0)
    have F124 := (F83.keep Kq97 nin0)
    have F125 := qk F89 Kq97 all0
    obtain ⟨_, T126, Lc126, X126, hQ126, st126⟩ := own_cV X120 hx hZ hown hml (rmeqU l Z A0 hw [] b100 b101 (92 : Int32) b102 b74 b75 b76 f_CS b99 b61 T97.heap n0 Z97 F114 F115 F116 F117 F121 F122 F123 F124 F125 hn_CS (ob_0_44 f_CS f_SF f_SS p0 p1 p2 p3 v1 v2 v3 v4 b76 b102 hn_CS hr_f_SF hr_f_SS hv1 hv2 hv3 hv4 c5 c45 hLU46 hp84 hp119) (qm F83.lt hp108)) (hwd 223 rfl) (hwd 225 rfl) (hwd 1 rfl) (hwd 227 rfl) (by decide) pd_223 eq120 (hwd 224 rfl) (hwd 226 rfl) F114 (g := (mkF m 1004 #[vI p0, vI p1, vI p2, vI p3, vI v1, vI v2, vI v3, vI v4, vR b48, vR b61, vR b98, vR b99] [(.ref b61), (.ref b99)])) (rest := []) rfl rfl rfl rfl (hb hby at_1004) rfl
    obtain ⟨rfl, Nq126, Kq126, hp127⟩ := hQ126
    have N126 := Fr.app N120 Nq126
    have R126 : CHr Z consts_1 T97.vm T97.heap T97.vm T126.heap := CHr.keep Kq126 (all0) CR97.1
    have CR126 : CHr Z consts_1 s.vm h0 T97.vm T126.heap := CR97.trans R126
    have hk126 : kc97 ≤ T126.heap.size := ql hk97 Kq126.1
    have K126 : Keep h0 T126.heap [] := K97.trans Kq126 (all0)
    have Z126 := ql Z97 Kq126.1
    refine qb st126 ?_
    show qG p e below _ (T126.setTop (mkF m 1007 #[vI p0, vI p1, vI p2, vI p3, vI v1, vI v2, vI v3, vI v4, vR b48, vR b61, vR b98, vR b99] [(.int 1)]))
    refine qb (fun _ k => XS.ifNo X126.here hx rfl (hb hby at_1007) rfl ((if0 _ _).trans (feq (by decide : ¬ ((1 : Int32) = (0 : Int32)))).1) k) ?_
    show qG p e below _ (T126.setTop (mkF m 1010 #[vI p0, vI p1, vI p2, vI p3, vI v1, vI v2, vI v3, vI v4, vR b48, vR b61, vR b98, vR b99] []))
    refine qb (fun _ k => XS.iconst X126.here hx rfl (hb hby at_1010) k) ?_
    refine qb (fun _ k => XS.goto X126.here hx rfl (pc0 := 1011) (pc' := 1015) rfl (hb hby at_1011) (by decide) (by decide) k) ?_
    show qG p e below _ (T126.setTop (mkF m 1015 #[vI p0, vI p1, vI p2, vI p3, vI v1, vI v2, vI v3, vI v4, vR b48, vR b61, vR b98, vR b99] [(.int 1)]))
    exact own_retNW X126 hx hS hk126 hZ hEL hh CR126 (t := .boolean) Bd.returns (by simp) (hb hby at_1015) hlk rfl ⟨rfl, N126⟩ (by decide) (by decide)
   ·skip
    show qG p e below _ (s₁.setTop (mkF m 39 #[vI p0, vI p1, vI p2, vI p3, vI v1, vI v2, vI v3, vI v4, .unset, .unset, .unset, .unset] []))
    refine qb (fun _ k => XS.iload X0.here hx rfl (hb hby at_39) rfl k) ?_
    obtain ⟨_, T128, Lc128, X128, hQ128, st128⟩ := own_cS X0 hx hZ hown hml (rmvoL l Z A0 hw [] f_CS v2 h0 n0 Z0 P_S_CS hn_CS hLU46) (hwd 300 rfl) (hwd 301 rfl) (hwd 1 rfl) (hwd 302 rfl) (by decide) pd_300 e0 (g := (mkF m 41 #[vI p0, vI p1, vI p2, vI p3, vI v1, vI v2, vI v3, vI v4, .unset, .unset, .unset, .unset] [(.int v2)])) (rest := []) rfl rfl rfl rfl (hb hby at_41) rfl
    obtain ⟨b129, b130, b131, rfl, Nq128, Kq128, hp132, hp133, F134, F135, F136, hp137, hp138, F139, F140, hp141⟩ := hQ128
    have N128 := Fr.app N0 Nq128
    have R128 : CHr Z consts_1 s.vm h0 s.vm T128.heap := CHr.keep Kq128 (all0) CR0.1
    have CR128 : CHr Z consts_1 s.vm h0 s.vm T128.heap := CR0.trans R128
    have hk128 : kc0 ≤ T128.heap.size := ql hk0 Kq128.1
    have K128 : Keep h0 T128.heap [] := (Keep.refl h0 []).trans Kq128 (all0)
    have Z128 := ql Z0 Kq128.1
    have sz_b129 := ql (Keep.refl h0 []).1 hp133
    have S_b129 : Safe Z consts_1 s.vm T128.heap b129 := Safe.keep Kq128 (all0) CR0.1 (Safe.new hp133)
    have lt_b129 := F134.lt
    have sz_b130 := ql (Keep.refl h0 []).1 hp138
    have S_b130 : Safe Z consts_1 s.vm T128.heap b130 := Safe.keep Kq128 (all0) CR0.1 (Safe.new hp138)
    have lt_b130 := F139.lt
    refine qb st128 ?_
    show qG p e below _ (T128.setTop (mkF m 44 #[vI p0, vI p1, vI p2, vI p3, vI v1, vI v2, vI v3, vI v4, .unset, .unset, .unset, .unset] [(.ref b129)]))
    refine qb (fun _ k => XS.astore X128.here hx rfl (hb hby at_44) rfl rfl (l' := #[vI p0, vI p1, vI p2, vI p3, vI v1, vI v2, vI v3, vI v4, vR b129, .unset, .unset, .unset]) rfl k) ?_
    show qG p e below _ (T128.setTop (mkF m 46 #[vI p0, vI p1, vI p2, vI p3, vI v1, vI v2, vI v3, vI v4, vR b129, .unset, .unset, .unset] []))
    obtain ⟨T142, h142, X142, e142, E142, A142, D142, -, st142⟩ := newO X128 hx hZ hown (hwd 233 rfl) (hwd 2 rfl) (hwd 1 rfl) rfl (g := (mkF m 46 #[vI p0, vI p1, vI p2, vI p3, vI v1, vI v2, vI v3, vI v4, vR b129, .unset, .unset, .unset] [])) rfl (hb hby at_46) (by decide) (by decide)
    obtain ⟨b142, g142⟩ : ∃ z, z = T128.heap.size := ⟨_, rfl⟩
    have ge_b142 : n0 ≤ b142 := ql Z128 (Nat.le_of_eq g142.symm)
    have sz_b142 := ql K128.1 (Nat.le_of_eq g142.symm)
    have R142 : CHr Z consts_1 s.vm T128.heap s.vm h142 := CHr.ext E142 CR128.1
    have CR142 : CHr Z consts_1 s.vm h0 s.vm h142 := CR128.trans R142
    have hk142 : kc0 ≤ h142.size := ql hk128 E142.1
    have S_b142 : Safe Z consts_1 s.vm h142 b142 := Safe.ext E142 CR128.1 (Safe.new (Nat.le_of_eq g142.symm))
    have K142 : Keep h0 h142 [] := K128.ext E142
    have Z142 := ql Z128 E142.1
    rw [← g142] at A142 D142 st142
    have lt_b142 := A142.lt
    have F_value_b142 : Fld Z h142 b142 cS "value" "[B" .null := D142 (Or.inr (hwd 4 rfl)) (ty := (.array .byte)) (by decide)
    have F_coder_b142 : Fld Z h142 b142 cS "coder" "B" (.int 0) := D142 (Or.inr (hwd 5 rfl)) (ty := .byte) (by decide)
    refine qb st142 ?_
    show qG p e below _ (T142.setTop (mkF m 49 #[vI p0, vI p1, vI p2, vI p3, vI v1, vI v2, vI v3, vI v4, vR b129, .unset, .unset, .unset] [(.ref b142)]))
    refine qb (fun _ k => XS.dup X142.here hx rfl (hb hby at_49) rfl rfl k) ?_
    refine qb (fun _ k => XS.bipush X142.here hx rfl (hb hby at_50) k) ?_
    obtain ⟨T143, h143, k143, X143, e143, E143, A143, Ax143, st143⟩ := newPE X142 hx hZ (hwd 234 rfl) e142 (g := (mkF m 52 #[vI p0, vI p1, vI p2, vI p3, vI v1, vI v2, vI v3, vI v4, vR b129, .unset, .unset, .unset] [(.int 46), (.ref b142), (.ref b142)])) rfl (hb hby at_52) rfl (by decide) (cap := 46) (by decide) (by decide) (by decide) (by decide) (ad := "[C") (by decide)
    obtain ⟨b143, g143⟩ : ∃ z, z = h142.size := ⟨_, rfl⟩
    have ge_b143 : n0 ≤ b143 := ql Z142 (Nat.le_of_eq g143.symm)
    have sz_b143 := ql K142.1 (Nat.le_of_eq g143.symm)
    have R143 : CHr Z consts_1 s.vm h142 s.vm h143 := CHr.ext E143 CR142.1
    have CR143 : CHr Z consts_1 s.vm h0 s.vm h143 := CR142.trans R143
    have hk143 : kc0 ≤ h143.size := ql hk142 E143.1
    have S_b143 : Safe Z consts_1 s.vm h143 b143 := Safe.ext E143 CR142.1 (Safe.new (Nat.le_of_eq g143.symm))
    have K143 : Keep h0 h143 [] := K142.ext E143
    have Z143 := ql Z142 E143.1
    rw [← g143] at A143 Ax143 st143
    have V143 : qA Z h143 b143 k143 .char (46 : Int32) (fun i => .int ((fun _ => (0 : Int32)) i)) := own_arfNew A143 (by decide)
    refine qb st143 ?_
    show qG p e below _ (T143.setTop (mkF m 54 #[vI p0, vI p1, vI p2, vI p3, vI v1, vI v2, vI v3, vI v4, vR b129, .unset, .unset, .unset] [(.ref b143), (.ref b142), (.ref b142)]))
    refine qb (fun _ k => XS.dup X143.here hx rfl (hb hby at_54) rfl rfl k) ?_
    refine qb (fun _ k => XS.iconst X143.here hx rfl (hb hby at_55) k) ?_
    refine qb (fun _ k => XS.iload X143.here hx rfl (hb hby at_56) rfl k) ?_
    obtain ⟨cl144, Ar144, qq144, S144, M144, H144, G144⟩ := id V143
    have hin144 : ¬ ((0 : Int32) < 0 ∨ cl144.slots.size ≤ ((0 : Int32)).toNatClampNeg) := inb_of S144 ⟨by decide, by decide⟩
    obtain ⟨T145, h145, X145, e145, W145, st145⟩ := stC X143 hx hZ e143 Ar144 (j := (0 : Int32)) hin144 (g := (mkF m 58 #[vI p0, vI p1, vI p2, vI p3, vI v1, vI v2, vI v3, vI v4, vR b129, .unset, .unset, .unset] [(.int v2), (.int 0), (.ref b143), (.ref b143), (.ref b142), (.ref b142)])) rfl rfl (hb hby at_58)
    have V145 : qA Z h145 b143 k143 .char (46 : Int32) (fun i => .int ((qu (fun _ => (0 : Int32)) 0 (nar .char v2)) i)) := own_arfSetI Ar144 qq144 S144 M144 H144 G144 (fits_nar_char _) W145
    have R145 : CHr Z consts_1 s.vm h143 s.vm h145 := CHr.wr W145 (own_arfSafe V143 hZ.alike (by decide)) CR143.1
    have CR145 : CHr Z consts_1 s.vm h0 s.vm h145 := CR143.trans R145
    have hk145 : kc0 ≤ h145.size := ql hk143 (Keep.of_wr W145).1
    have K145 : Keep h0 h145 [] := K143.wr W145 (Or.inr sz_b143)
    have Z145 := ql Z143 (Keep.of_wr W145).1
    have N145 := Fr.snoc X145 N128 ge_b143
    refine qb st145 ?_
    obtain ⟨T146, h146, L146, X146, e146, N146, Kq146, V146, st146⟩ := own_fill (Ls := #[vI p0, vI p1, vI p2, vI p3, vI v1, vI v2, vI v3, vI v4, vR b129, .unset, .unset, .unset]) (rest := [(.ref b142), (.ref b142)]) hx hZ ge_b143 own_txt1 59 _ _ _ (qu (fun _ => (0 : Int32)) 0 (nar .char v2)) X145 e145 V145 N145 (by rw [hby]; decide +kernel)
    have R146 : CHr Z consts_1 s.vm h145 s.vm h146 := CHr.keep Kq146 (allS (own_arfSafe V145 hZ.alike (by decide)) all0) CR145.1
    have CR146 : CHr Z consts_1 s.vm h0 s.vm h146 := CR145.trans R146
    have hk146 : kc0 ≤ h146.size := ql hk145 Kq146.1
    have K146 : Keep h0 h146 [] := K145.trans Kq146 ((allS (Or.inr sz_b143) all0))
    have Z146 := ql Z145 Kq146.1
    refine qb st146 ?_
    show qG p e below _ (T146.setTop (mkF m 324 #[vI p0, vI p1, vI p2, vI p3, vI v1, vI v2, vI v3, vI v4, vR b129, .unset, .unset, .unset] [(.ref b143), (.ref b142), (.ref b142)]))
    have F147 := (((A142.ext E143).wr W145).keep Kq146)
    have F148 := qk ((((qk P_S_CS Kq128 all0).ext E142).ext E143).wr W145) Kq146 (allS (qa V145) all0)
    have F149 := (((F_coder_b142.ext E143).other W145 (Or.inl (qn A142.lt (Nat.le_of_eq g143.symm)))).keep Kq146 (ninS (qn A142.lt (Nat.le_of_eq g143.symm)) nin0))
    have F150 := (((F_value_b142.ext E143).other W145 (Or.inl (qn A142.lt (Nat.le_of_eq g143.symm)))).keep Kq146 (ninS (qn A142.lt (Nat.le_of_eq g143.symm)) nin0))
    obtain ⟨_, T151, Lc151, X151, hQ151, st151⟩ := own_cI X146 hx hZ hown hml (rmsiL l Z A0 hw [] k143 (46 : Int32) (own_ff (qu (fun _ => (0 : Int32)) 0 (nar .char v2)) own_txt1) f_CS b142 b143 (0 : Int32) (.null) h146 n0 Z146 F147 V146 F148 hn_CS (show 0 ≤ ((46 : Int32)).toInt ∧ ((46 : Int32)).toInt ≤ 48 by decide) (ob_0_45 f_CS f_SF f_SS p0 p1 p2 p3 v1 v2 v3 v4 hn_CS hr_f_SF hr_f_SS hv1 hv2 hv3 hv4 c5 c45 hLU46) F149 F150 (show ¬ ((46 : Int32) = (0 : Int32)) by decide) (show ¬ ((46 : Int32) < (0 : Int32)) by decide) (show 46 ≤ 48 by decide) ge_b142) (hwd 235 rfl) (hwd 236 rfl) (hwd 1 rfl) (hwd 237 rfl) (by decide) pd_235 e146 rfl (g := (mkF m 324 #[vI p0, vI p1, vI p2, vI p3, vI v1, vI v2, vI v3, vI v4, vR b129, .unset, .unset, .unset] [(.ref b143), (.ref b142), (.ref b142)])) (rest := [(.ref b142)]) rfl rfl rfl rfl (hb hby at_324) rfl
    obtain ⟨b152, b153, b154, rfl, Nq151, Kq151, hp155, hp156, F157, F158, F159, F160, F161, hp162⟩ := hQ151
    have N151 := Fr.app N146 Nq151
    have R151 : CHr Z consts_1 s.vm h146 s.vm T151.heap := CHr.keep Kq151 ((allS (CHr.safe (R143.trans (R145.trans R146)) lt_b142 S_b142) all0)) CR146.1
    have CR151 : CHr Z consts_1 s.vm h0 s.vm T151.heap := CR146.trans R151
    have hk151 : kc0 ≤ T151.heap.size := ql hk146 Kq151.1
    have K151 : Keep h0 T151.heap [] := K146.trans Kq151 ((allS (Or.inr sz_b142) all0))
    have Z151 := ql Z146 Kq151.1
    have sz_b152 := ql K146.1 hp156
    have S_b152 : Safe Z consts_1 s.vm T151.heap b152 := Safe.keep Kq151 ((allS (CHr.safe (R143.trans (R145.trans R146)) lt_b142 S_b142) all0)) CR146.1 (Safe.new hp156)
    have lt_b152 := F160.lt
    refine qb st151 ?_
    show qG p e below _ (T151.setTop (mkF m 327 #[vI p0, vI p1, vI p2, vI p3, vI v1, vI v2, vI v3, vI v4, vR b129, .unset, .unset, .unset] [(.ref b142)]))
    refine qb (fun _ k => XS.astore X151.here hx rfl (hb hby at_327) rfl rfl (l' := #[vI p0, vI p1, vI p2, vI p3, vI v1, vI v2, vI v3, vI v4, vR b129, vR b142, .unset, .unset]) rfl k) ?_
    show qG p e below _ (T151.setTop (mkF m 329 #[vI p0, vI p1, vI p2, vI p3, vI v1, vI v2, vI v3, vI v4, vR b129, vR b142, .unset, .unset] []))
    refine qb (fun _ k => XS.goto X151.here hx rfl (pc0 := 329) (pc' := 974) rfl (hb hby at_329) (by decide) (by decide) k) ?_
    show qG p e below _ (T151.setTop (mkF m 974 #[vI p0, vI p1, vI p2, vI p3, vI v1, vI v2, vI v3, vI v4, vR b129, vR b142, .unset, .unset] []))
    refine qb (fun _ k => XS.aload X151.here hx rfl (hb hby at_974) rfl rfl k) ?_
    have F163 := (((((F134.ext E142).ext E143).wr W145).keep Kq146).keep Kq151)
    have F164 := (((((F136.ext E142).ext E143).other W145 (Or.inl (qn ((F134.ext E142)).lt (Nat.le_of_eq g143.symm)))).keep Kq146 (ninS (qn ((F134.ext E142)).lt (Nat.le_of_eq g143.symm)) nin0)).keep Kq151 (ninS (qn F134.lt (Nat.le_of_eq g142.symm)) nin0))
    have F165 := (((((F135.ext E142).ext E143).other W145 (Or.inl (qn ((F134.ext E142)).lt (Nat.le_of_eq g143.symm)))).keep Kq146 (ninS (qn ((F134.ext E142)).lt (Nat.le_of_eq g143.symm)) nin0)).keep Kq151 (ninS (qn F134.lt (Nat.le_of_eq g142.symm)) nin0))
    have F166 := (((((F140.ext E142).ext E143).other W145 (qn ((F140.ext E142)).lt (Nat.le_of_eq g143.symm))).keep Kq146 (ninS (qn ((F140.ext E142)).lt (Nat.le_of_eq g143.symm)) nin0)).keep Kq151 (ninS (qn F140.lt (Nat.le_of_eq g142.symm)) nin0))
    have F167 := qk F148 Kq151 (allS (qx F147) all0)
    have F168 := qk (qk ((((qk P_S_US Kq128 all0).ext E142).ext E143).wr W145) Kq146 (allS (qa V145) all0)) Kq151 (allS (qx F147) all0)
    have F169 := qk (qk ((((qk P_S_SS Kq128 all0).ext E142).ext E143).wr W145) Kq146 (allS (qa V145) all0)) Kq151 (allS (qx F147) all0)
    have F170 := (ThS.keep Kq151 (nsS (qx F147) ns0) (ThS.keep Kq146 (nsS (qa V145) ns0) ((((ThS.keep Kq128 ns0 P_T).ext E142).ext E143).wr W145)))
    obtain ⟨_, _, ⟨T171, L171, k171, n171⟩, -, X171', hSq171, hgr171, ⟨Lc171, hQ171, l171, y171, z171, R171⟩, st171⟩ := callSS X151 hx (y := (⟨"com/example/model_check_sql/modelchecksql/model/ModelReading", "noState", "(Ljava/lang/String;)Lcom/example/model_check_sql/modelchecksql/model/ModelFormatException;"⟩ : MethodName)) hown (mvT hZ (hwd 9 rfl)) (mvT hZ (hwd 10 rfl)) (mvT hZ (hwd 11 rfl)) (mvT hZ (hwd 12 rfl)) (by decide) (backOfSKH (W := 0) (rmnoL l Z A0 hw [] b130 b131 (1 : Int32) (qu (fun _ => (0 : Int32)) 0 (nar .byte (v2.toInt8.toInt32))) f_CS f_US f_SS b129 T151.heap n0 Z151 F163 F164 F165 F166 F167 hn_CS F168 F169 hr_f_SS F170 (show ¬ ((0 : Int32) < (-15 : Int32)) by decide) (show ¬ (1 : Int32) < 0 by decide) (show 0 + 1 ≤ 1 by decide) (show 0 + 1 ≤ 16 by decide) (show (0 : Int32) < (30 : Int32) by decide) (show ¬ ((30 : Int32) < (18 : Int32)) by decide) (show (0 : Int32) < (46 : Int32) by decide) (show ¬ ((2147483639 : Int32) < (46 : Int32)) by decide) (show ¬ ((46 : Int32) = (2147483647 : Int32)) by decide) (show ¬ ((46 : Int32) = (16 : Int32)) by decide) (show ¬ ((46 : Int32) < (0 : Int32)) by decide) (show 46 ≤ 96 by decide) (show ¬ ((46 : Int32) < (16 : Int32)) by decide) (show 0 + 16 ≤ 46 by decide) (show ¬ (1 : Int32) < 0 by decide) (show 1 + 45 ≤ 46 by decide) (show (46 : Int32) = (46 : Int32) by decide) hl0) hZ (hwd 12 rfl) (hwd 11 rfl) (by decide) (by decide) hEL CR151.1 (hK.1.alikeC hS.1.alike) (hK.2.alikeC hS.1.alike)) (g := (mkF m 976 #[vI p0, vI p1, vI p2, vI p3, vI v1, vI v2, vI v3, vI v4, vR b129, vR b142, .unset, .unset] [(.ref b129)])) rfl (by rw [hml]; rfl) (argsL := [(.ref b129)]) (rest := []) (lenOf pd_9 rfl) rfl (by show 2 * 0 + _ ≤ _; exact Nat.le_of_eq rfl) (hb hby at_976) (fun _ _ => ⟨rfl, rfl, (by decide : 5 + 9 ≤ _), (by decide : 103 + 3158 ≤ _)⟩)
    dsimp only [Pt.U, Pt.locs, Pt.cells, Pt.slots] at X171' l171 y171 z171 st171 hQ171 hSq171 hgr171 R171
    subst l171 y171 z171
    obtain ⟨X171, hS, hZ, hown⟩ := rebS hS hk151 X171' hSq171 hgr171 hZ hown
    obtain ⟨kc171, hkc171⟩ : ∃ z, z = T171.heap.size := ⟨_, rfl⟩
    rw [← hkc171] at hS
    have hk171 : kc171 ≤ T171.heap.size := Nat.le_of_eq hkc171
    have CR171 : CHr Z consts_1 s.vm h0 T171.vm T171.heap := CR151.trans R171
    obtain ⟨b172, b173, b174, b175, rfl, Nq171, Kq171, hp176, hp177, F178, F179, hp180, hp181, F182, F183, F184, hp185, hp186, F187, F188, hp189, hp190, hp191⟩ := hQ171
    have N171 := Fr.app N151 Nq171
    have K171 : Keep h0 T171.heap [] := K151.trans Kq171 (all0)
    have Z171 := ql Z151 Kq171.1
    have sz_b172 := ql K151.1 hp177
    have sz_b173 := ql K151.1 hp181
    have sz_b174 := ql K151.1 hp186
    refine qb (fun _ k => st171.trans k) ?_
    show qG p e below _ (T171.setTop (mkF m 979 #[vI p0, vI p1, vI p2, vI p3, vI v1, vI v2, vI v3, vI v4, vR b129, vR b142, .unset, .unset] [(.ref b172)]))
    refine qb (fun _ k => XS.astore X171.here hx rfl (hb hby at_979) rfl rfl (l' := #[vI p0, vI p1, vI p2, vI p3, vI v1, vI v2, vI v3, vI v4, vR b129, vR b142, vR b172, .unset]) rfl k) ?_
    show qG p e below _ (T171.setTop (mkF m 981 #[vI p0, vI p1, vI p2, vI p3, vI v1, vI v2, vI v3, vI v4, vR b129, vR b142, vR b172, .unset] []))
    refine qb (fun _ k => XS.aload X171.here hx rfl (hb hby at_981) rfl rfl k) ?_
    refine qb (fun _ k => XS.ifnonnullYes X171.here hx rfl (pc0 := 983) (pc' := 988) rfl (hb hby at_983) rfl (by decide) (by decide) k) ?_
    show qG p e below _ (T171.setTop (mkF m 988 #[vI p0, vI p1, vI p2, vI p3, vI v1, vI v2, vI v3, vI v4, vR b129, vR b142, vR b172, .unset] []))
    refine qb (fun _ k => XS.aload X171.here hx rfl (hb hby at_988) rfl rfl k) ?_
    obtain ⟨cq192, kq192, qq192a, qq192b, qq192c⟩ := isOf hZ rfl F178
    obtain ⟨_, _, ⟨T192, L192, k192, n192⟩, -, X192, ⟨Lc192, hQ192, l192, y192, z192⟩, st192⟩ := X171.virtualBackUp hx (x := (⟨"com/example/model_check_sql/modelchecksql/model/ModelFormatException", "getMessage", "()Ljava/lang/String;"⟩ : MethodName)) (y := (⟨"java/lang/Throwable", "getMessage", "()Ljava/lang/String;"⟩ : MethodName)) (owner := "java/lang/Throwable") hown (mvT hZ (hwd 217 rfl)) (mvT hZ (hwd 218 rfl)) (mvT hZ (hwd 219 rfl)) (by decide) (mvT hZ (hwd 221 rfl)) (mvT hZ (hwd 220 rfl)) (backOf (W := 0) (rmgetm l Z A0 hw [] b172 b173 T171.heap n0 Z171 F179) hZ (hwd 222 rfl) (hwd 178 rfl) (by decide) (by decide)) qq192a qq192c (g := (mkF m 990 #[vI p0, vI p1, vI p2, vI p3, vI v1, vI v2, vI v3, vI v4, vR b129, vR b142, vR b172, .unset] [(.ref b172)])) rfl (by rw [hml]; rfl) (Steps.refl _) (argsL := []) (rest := []) (lenOf pd_110 rfl) rfl (by show 2 * 0 + _ ≤ _; exact Nat.le_of_eq rfl) (hb hby at_990) (fun _ _ => ⟨rfl, rfl, (by decide : 14 + 0 ≤ _), (by decide : 3261 + 0 ≤ _)⟩)
    dsimp only [Pt.U, Pt.locs, Pt.cells, Pt.slots] at X192 l192 y192 z192 st192 hQ192
    subst l192 y192 z192
    obtain ⟨rfl, Nq192, eq192⟩ := hQ192
    have N192 := Fr.app N171 Nq192
    refine qb (fun _ k => st192.trans k) ?_
    show qG p e below _ (T192.setTop (mkF m 993 #[vI p0, vI p1, vI p2, vI p3, vI v1, vI v2, vI v3, vI v4, vR b129, vR b142, vR b172, .unset] [(.ref b173)]))
    refine qb (fun _ k => XS.astore X192.here hx rfl (hb hby at_993) rfl rfl (l' := #[vI p0, vI p1, vI p2, vI p3, vI v1, vI v2, vI v3, vI v4, vR b129, vR b142, vR b172, vR b173]) rfl k) ?_
    show qG p e below _ (T192.setTop (mkF m 995 #[vI p0, vI p1, vI p2, vI p3, vI v1, vI v2, vI v3, vI v4, vR b129, vR b142, vR b172, vR b173] []))
    refine qb (fun _ k => XS.aload X192.here hx rfl (hb hby at_995) rfl rfl k) ?_
    refine qb (fun _ k => XS.ifnullNo X192.here hx rfl (hb hby at_997) rfl k) ?_
    show qG p e below _ (T192.setTop (mkF m 1000 #[vI p0, vI p1, vI p2, vI p3, vI v1, vI v2, vI v3, vI v4, vR b129, vR b142, vR b172, vR b173] []))
    refine qb (fun _ k => XS.aload X192.here hx rfl (hb hby at_1000) rfl rfl k) ?_
    refine qb (fun _ k => XS.aload X192.here hx rfl (hb hby at_1002) rfl rfl k) ?_
    have F193 := (F157.keep Kq171)
    have F194 := (F158.keep Kq171 nin0)
    have F195 := (F159.keep Kq171 nin0)
    have F196 := (F161.keep Kq171 nin0)
    have F197 := qk F167 Kq171 all0
    obtain ⟨_, T198, Lc198, X198, hQ198, st198⟩ := own_cV X192 hx hZ hown hml (rmeqL l Z A0 hw [] b174 b175 (46 : Int32) (own_cp (own_li own_LIT) 0 (own_cp (own_cp (qu (fun _ => (0 : Int32)) 0 (nar .byte (v2.toInt8.toInt32))) 0 (fun _ => (0 : Int32)) 0 1) 0 (fun _ => (0 : Int32)) 0 16) 1 45) b152 b153 b154 f_CS b173 b142 T171.heap n0 Z171 F182 F183 F184 F187 F193 F194 F195 F196 F197 hn_CS (ob_0_46 f_CS f_SF f_SS p0 p1 p2 p3 v1 v2 v3 v4 b154 hn_CS hr_f_SF hr_f_SS hv1 hv2 hv3 hv4 c5 c45 hLU46 hp162) (qm F161.lt hp186)) (hwd 223 rfl) (hwd 225 rfl) (hwd 1 rfl) (hwd 227 rfl) (by decide) pd_223 eq192 (hwd 224 rfl) (hwd 226 rfl) F182 (g := (mkF m 1004 #[vI p0, vI p1, vI p2, vI p3, vI v1, vI v2, vI v3, vI v4, vR b129, vR b142, vR b172, vR b173] [(.ref b142), (.ref b173)])) (rest := []) rfl rfl rfl rfl (hb hby at_1004) rfl
    obtain ⟨rfl, Nq198, Kq198, hp199⟩ := hQ198
    have N198 := Fr.app N192 Nq198
    have R198 : CHr Z consts_1 T171.vm T171.heap T171.vm T198.heap := CHr.keep Kq198 (all0) CR171.1
    have CR198 : CHr Z consts_1 s.vm h0 T171.vm T198.heap := CR171.trans R198
    have hk198 : kc171 ≤ T198.heap.size := ql hk171 Kq198.1
    have K198 : Keep h0 T198.heap [] := K171.trans Kq198 (all0)
    have Z198 := ql Z171 Kq198.1
    refine qb st198 ?_
    show qG p e below _ (T198.setTop (mkF m 1007 #[vI p0, vI p1, vI p2, vI p3, vI v1, vI v2, vI v3, vI v4, vR b129, vR b142, vR b172, vR b173] [(.int 1)]))
    refine qb (fun _ k => XS.ifNo X198.here hx rfl (hb hby at_1007) rfl ((if0 _ _).trans (feq (by decide : ¬ ((1 : Int32) = (0 : Int32)))).1) k) ?_
    show qG p e below _ (T198.setTop (mkF m 1010 #[vI p0, vI p1, vI p2, vI p3, vI v1, vI v2, vI v3, vI v4, vR b129, vR b142, vR b172, vR b173] []))
    refine qb (fun _ k => XS.iconst X198.here hx rfl (hb hby at_1010) k) ?_
    refine qb (fun _ k => XS.goto X198.here hx rfl (pc0 := 1011) (pc' := 1015) rfl (hb hby at_1011) (by decide) (by decide) k) ?_
    show qG p e below _ (T198.setTop (mkF m 1015 #[vI p0, vI p1, vI p2, vI p3, vI v1, vI v2, vI v3, vI v4, vR b129, vR b142, vR b172, vR b173] [(.int 1)]))
    exact own_retNW X198 hx hS hk198 hZ hEL hh CR198 (t := .boolean) Bd.returns (by simp) (hb hby at_1015) hlk rfl ⟨rfl, N198⟩ (by decide) (by decide)
  ·skip
   refine qb (fun _ k => XS.icmpYes X0.here hx rfl (pc0 := 36) (pc' := 332) rfl (hb hby at_36) rfl (feq c45).2 (by decide) (by decide) k) ?_
   show qG p e below _ (s₁.setTop (mkF m 332 #[vI p0, vI p1, vI p2, vI p3, vI v1, vI v2, vI v3, vI v4, .unset, .unset, .unset, .unset] []))
   refine qb (fun _ k => XS.iload X0.here hx rfl (hb hby at_332) rfl k) ?_
   refine qb (fun _ k => XS.iconst X0.here hx rfl (hb hby at_334) k) ?_
   by_cases c200 : v1 = (2 : Int32)
   ·skip
    refine qb (fun _ k => XS.icmpNo X0.here hx rfl (hb hby at_335) rfl (teq c200).2 k) ?_
    show qG p e below _ (s₁.setTop (mkF m 338 #[vI p0, vI p1, vI p2, vI p3, vI v1, vI v2, vI v3, vI v4, .unset, .unset, .unset, .unset] []))
    by_cases hLU201 : (255 : Int32) < v2 ∨ (255 : Int32) < v3
    ·skip
     show qG p e below _ (s₁.setTop (mkF m 338 #[vI p0, vI p1, vI p2, vI p3, vI v1, vI v2, vI v3, vI v4, .unset, .unset, .unset, .unset] []))
     obtain ⟨T202, h202, X202, e202, E202, A202, D202, -, st202⟩ := newO X0 hx hZ hown (hwd 233 rfl) (hwd 2 rfl) (hwd 1 rfl) e0 (g := (mkF m 338 #[vI p0, vI p1, vI p2, vI p3, vI v1, vI v2, vI v3, vI v4, .unset, .unset, .unset, .unset] [])) rfl (hb hby at_338) (by decide) (by decide)
     obtain ⟨b202, g202⟩ : ∃ z, z = h0.size := ⟨_, rfl⟩
     have ge_b202 : n0 ≤ b202 := ql Z0 (Nat.le_of_eq g202.symm)
     have sz_b202 := ql (Keep.refl h0 []).1 (Nat.le_of_eq g202.symm)
     have R202 : CHr Z consts_1 s.vm h0 s.vm h202 := CHr.ext E202 CR0.1
     have CR202 : CHr Z consts_1 s.vm h0 s.vm h202 := CR0.trans R202
     have hk202 : kc0 ≤ h202.size := ql hk0 E202.1
     have S_b202 : Safe Z consts_1 s.vm h202 b202 := Safe.ext E202 CR0.1 (Safe.new (Nat.le_of_eq g202.symm))
     have K202 : Keep h0 h202 [] := (Keep.refl h0 []).ext E202
     have Z202 := ql Z0 E202.1
     rw [← g202] at A202 D202 st202
     have lt_b202 := A202.lt
     have F_value_b202 : Fld Z h202 b202 cS "value" "[B" .null := D202 (Or.inr (hwd 4 rfl)) (ty := (.array .byte)) (by decide)
     have F_coder_b202 : Fld Z h202 b202 cS "coder" "B" (.int 0) := D202 (Or.inr (hwd 5 rfl)) (ty := .byte) (by decide)
     refine qb st202 ?_
     show qG p e below _ (T202.setTop (mkF m 341 #[vI p0, vI p1, vI p2, vI p3, vI v1, vI v2, vI v3, vI v4, .unset, .unset, .unset, .unset] [(.ref b202)]))
     refine qb (fun _ k => XS.dup X202.here hx rfl (hb hby at_341) rfl rfl k) ?_
     refine qb (fun _ k => XS.iconst X202.here hx rfl (hb hby at_342) k) ?_
     obtain ⟨T203, h203, k203, X203, e203, E203, A203, Ax203, st203⟩ := newPE X202 hx hZ (hwd 234 rfl) e202 (g := (mkF m 343 #[vI p0, vI p1, vI p2, vI p3, vI v1, vI v2, vI v3, vI v4, .unset, .unset, .unset, .unset] [(.int 2), (.ref b202), (.ref b202)])) rfl (hb hby at_343) rfl (by decide) (cap := 2) (by decide) (by decide) (by decide) (by decide) (ad := "[C") (by decide)
     obtain ⟨b203, g203⟩ : ∃ z, z = h202.size := ⟨_, rfl⟩
     have ge_b203 : n0 ≤ b203 := ql Z202 (Nat.le_of_eq g203.symm)
     have sz_b203 := ql K202.1 (Nat.le_of_eq g203.symm)
     have R203 : CHr Z consts_1 s.vm h202 s.vm h203 := CHr.ext E203 CR202.1
     have CR203 : CHr Z consts_1 s.vm h0 s.vm h203 := CR202.trans R203
     have hk203 : kc0 ≤ h203.size := ql hk202 E203.1
     have S_b203 : Safe Z consts_1 s.vm h203 b203 := Safe.ext E203 CR202.1 (Safe.new (Nat.le_of_eq g203.symm))
     have K203 : Keep h0 h203 [] := K202.ext E203
     have Z203 := ql Z202 E203.1
     rw [← g203] at A203 Ax203 st203
     have V203 : qA Z h203 b203 k203 .char (2 : Int32) (fun i => .int ((fun _ => (0 : Int32)) i)) := own_arfNew A203 (by decide)
     refine qb st203 ?_
     show qG p e below _ (T203.setTop (mkF m 345 #[vI p0, vI p1, vI p2, vI p3, vI v1, vI v2, vI v3, vI v4, .unset, .unset, .unset, .unset] [(.ref b203), (.ref b202), (.ref b202)]))
     refine qb (fun _ k => XS.dup X203.here hx rfl (hb hby at_345) rfl rfl k) ?_
     refine qb (fun _ k => XS.iconst X203.here hx rfl (hb hby at_346) k) ?_
     refine qb (fun _ k => XS.iload X203.here hx rfl (hb hby at_347) rfl k) ?_
     obtain ⟨cl204, Ar204, qq204, S204, M204, H204, G204⟩ := id V203
     have hin204 : ¬ ((0 : Int32) < 0 ∨ cl204.slots.size ≤ ((0 : Int32)).toNatClampNeg) := inb_of S204 ⟨by decide, by decide⟩
     obtain ⟨T205, h205, X205, e205, W205, st205⟩ := stC X203 hx hZ e203 Ar204 (j := (0 : Int32)) hin204 (g := (mkF m 349 #[vI p0, vI p1, vI p2, vI p3, vI v1, vI v2, vI v3, vI v4, .unset, .unset, .unset, .unset] [(.int v2), (.int 0), (.ref b203), (.ref b203), (.ref b202), (.ref b202)])) rfl rfl (hb hby at_349)
     have V205 : qA Z h205 b203 k203 .char (2 : Int32) (fun i => .int ((qu (fun _ => (0 : Int32)) 0 (nar .char v2)) i)) := own_arfSetI Ar204 qq204 S204 M204 H204 G204 (fits_nar_char _) W205
     have R205 : CHr Z consts_1 s.vm h203 s.vm h205 := CHr.wr W205 (own_arfSafe V203 hZ.alike (by decide)) CR203.1
     have CR205 : CHr Z consts_1 s.vm h0 s.vm h205 := CR203.trans R205
     have hk205 : kc0 ≤ h205.size := ql hk203 (Keep.of_wr W205).1
     have K205 : Keep h0 h205 [] := K203.wr W205 (Or.inr sz_b203)
     have Z205 := ql Z203 (Keep.of_wr W205).1
     have N205 := Fr.snoc X205 N0 ge_b203
     refine qb st205 ?_
     refine qb (fun _ k => XS.dup X205.here hx rfl (hb hby at_350) rfl rfl k) ?_
     refine qb (fun _ k => XS.iconst X205.here hx rfl (hb hby at_351) k) ?_
     refine qb (fun _ k => XS.iload X205.here hx rfl (hb hby at_352) rfl k) ?_
     obtain ⟨cl206, Ar206, qq206, S206, M206, H206, G206⟩ := id V205
     have hin206 : ¬ ((1 : Int32) < 0 ∨ cl206.slots.size ≤ ((1 : Int32)).toNatClampNeg) := inb_of S206 ⟨by decide, by decide⟩
     obtain ⟨T207, h207, X207, e207, W207, st207⟩ := stC X205 hx hZ e205 Ar206 (j := (1 : Int32)) hin206 (g := (mkF m 354 #[vI p0, vI p1, vI p2, vI p3, vI v1, vI v2, vI v3, vI v4, .unset, .unset, .unset, .unset] [(.int v3), (.int 1), (.ref b203), (.ref b203), (.ref b202), (.ref b202)])) rfl rfl (hb hby at_354)
     have V207 : qA Z h207 b203 k203 .char (2 : Int32) (fun i => .int ((qu (qu (fun _ => (0 : Int32)) 0 (nar .char v2)) 1 (nar .char v3)) i)) := own_arfSetI Ar206 qq206 S206 M206 H206 G206 (fits_nar_char _) W207
     have R207 : CHr Z consts_1 s.vm h205 s.vm h207 := CHr.wr W207 (own_arfSafe V205 hZ.alike (by decide)) CR205.1
     have CR207 : CHr Z consts_1 s.vm h0 s.vm h207 := CR205.trans R207
     have hk207 : kc0 ≤ h207.size := ql hk205 (Keep.of_wr W207).1
     have K207 : Keep h0 h207 [] := K205.wr W207 (Or.inr sz_b203)
     have Z207 := ql Z205 (Keep.of_wr W207).1
     have N207 := Fr.snoc X207 N205 ge_b203
     refine qb st207 ?_
     have F208 := (((A202.ext E203).wr W205).wr W207)
     have F209 := ((((P_S_CS.ext E202).ext E203).wr W205).wr W207)
     have F210 := ((((P_S_UD.ext E202).ext E203).wr W205).wr W207)
     have F211 := ((((P_S_HI_BYTE_SHIFT.ext E202).ext E203).wr W205).wr W207)
     have F212 := ((((P_S_LO_BYTE_SHIFT.ext E202).ext E203).wr W205).wr W207)
     have F213 := (((F_coder_b202.ext E203).other W205 (Or.inl (qn A202.lt (Nat.le_of_eq g203.symm)))).other W207 (Or.inl (qn A202.lt (Nat.le_of_eq g203.symm))))
     have F214 := (((F_value_b202.ext E203).other W205 (Or.inl (qn A202.lt (Nat.le_of_eq g203.symm)))).other W207 (Or.inl (qn A202.lt (Nat.le_of_eq g203.symm))))
     obtain ⟨_, T215, Lc215, X215, hQ215, st215⟩ := own_cI X207 hx hZ hown hml (rmsiU l Z A0 hw [] k203 (2 : Int32) (qu (qu (fun _ => (0 : Int32)) 0 (nar .char v2)) 1 (nar .char v3)) f_CS b202 b203 (0 : Int32) (.null) h207 n0 Z207 F208 V207 F209 hn_CS F210 F211 F212 (show 0 ≤ ((2 : Int32)).toInt ∧ ((2 : Int32)).toInt ≤ 48 by decide) (ob_0_47 f_CS f_SF f_SS p0 p1 p2 p3 v1 v2 v3 v4 hn_CS hr_f_SF hr_f_SS hv1 hv2 hv3 hv4 c5 c45 c200 hLU201) (ob_0_48 f_CS f_SF f_SS p0 p1 p2 p3 v1 v2 v3 v4 hn_CS hr_f_SF hr_f_SS hv1 hv2 hv3 hv4 c5 c45 c200 hLU201) F213 F214 (show ¬ ((2 : Int32) = (0 : Int32)) by decide) (show ¬ ((2 : Int32) < (0 : Int32)) by decide) (show 2 ≤ 48 by decide) (show (2 : Int32) < (1073741823 : Int32) by decide) (show ¬ ((4 : Int32) < (0 : Int32)) by decide) (show 4 ≤ 96 by decide) ge_b202) (hwd 235 rfl) (hwd 236 rfl) (hwd 1 rfl) (hwd 237 rfl) (by decide) pd_235 e207 rfl (g := (mkF m 355 #[vI p0, vI p1, vI p2, vI p3, vI v1, vI v2, vI v3, vI v4, .unset, .unset, .unset, .unset] [(.ref b203), (.ref b202), (.ref b202)])) (rest := [(.ref b202)]) rfl rfl rfl rfl (hb hby at_355) rfl
     obtain ⟨b216, b217, b218, rfl, Nq215, Kq215, hp219, hp220, F221, F222, F223, F224, F225, hp226⟩ := hQ215
     have N215 := Fr.app N207 Nq215
     have R215 : CHr Z consts_1 s.vm h207 s.vm T215.heap := CHr.keep Kq215 ((allS (CHr.safe (R203.trans (R205.trans R207)) lt_b202 S_b202) all0)) CR207.1
     have CR215 : CHr Z consts_1 s.vm h0 s.vm T215.heap := CR207.trans R215
     have hk215 : kc0 ≤ T215.heap.size := ql hk207 Kq215.1
     have K215 : Keep h0 T215.heap [] := K207.trans Kq215 ((allS (Or.inr sz_b202) all0))
     have Z215 := ql Z207 Kq215.1
     have sz_b216 := ql K207.1 hp220
     have S_b216 : Safe Z consts_1 s.vm T215.heap b216 := Safe.keep Kq215 ((allS (CHr.safe (R203.trans (R205.trans R207)) lt_b202 S_b202) all0)) CR207.1 (Safe.new hp220)
     have lt_b216 := F224.lt
     refine qb st215 ?_
     show qG p e below _ (T215.setTop (mkF m 358 #[vI p0, vI p1, vI p2, vI p3, vI v1, vI v2, vI v3, vI v4, .unset, .unset, .unset, .unset] [(.ref b202)]))
     refine qb (fun _ k => XS.astore X215.here hx rfl (hb hby at_358) rfl rfl (l' := #[vI p0, vI p1, vI p2, vI p3, vI v1, vI v2, vI v3, vI v4, vR b202, .unset, .unset, .unset]) rfl k) ?_
     show qG p e below _ (T215.setTop (mkF m 360 #[vI p0, vI p1, vI p2, vI p3, vI v1, vI v2, vI v3, vI v4, vR b202, .unset, .unset, .unset] []))
     obtain ⟨T227, h227, X227, e227, E227, A227, D227, -, st227⟩ := newO X215 hx hZ hown (hwd 233 rfl) (hwd 2 rfl) (hwd 1 rfl) rfl (g := (mkF m 360 #[vI p0, vI p1, vI p2, vI p3, vI v1, vI v2, vI v3, vI v4, vR b202, .unset, .unset, .unset] [])) rfl (hb hby at_360) (by decide) (by decide)
     obtain ⟨b227, g227⟩ : ∃ z, z = T215.heap.size := ⟨_, rfl⟩
     have ge_b227 : n0 ≤ b227 := ql Z215 (Nat.le_of_eq g227.symm)
     have sz_b227 := ql K215.1 (Nat.le_of_eq g227.symm)
     have R227 : CHr Z consts_1 s.vm T215.heap s.vm h227 := CHr.ext E227 CR215.1
     have CR227 : CHr Z consts_1 s.vm h0 s.vm h227 := CR215.trans R227
     have hk227 : kc0 ≤ h227.size := ql hk215 E227.1
     have S_b227 : Safe Z consts_1 s.vm h227 b227 := Safe.ext E227 CR215.1 (Safe.new (Nat.le_of_eq g227.symm))
     have K227 : Keep h0 h227 [] := K215.ext E227
     have Z227 := ql Z215 E227.1
     rw [← g227] at A227 D227 st227
     have lt_b227 := A227.lt
     have F_value_b227 : Fld Z h227 b227 cS "value" "[B" .null := D227 (Or.inr (hwd 4 rfl)) (ty := (.array .byte)) (by decide)
     have F_coder_b227 : Fld Z h227 b227 cS "coder" "B" (.int 0) := D227 (Or.inr (hwd 5 rfl)) (ty := .byte) (by decide)
     refine qb st227 ?_
     show qG p e below _ (T227.setTop (mkF m 363 #[vI p0, vI p1, vI p2, vI p3, vI v1, vI v2, vI v3, vI v4, vR b202, .unset, .unset, .unset] [(.ref b227)]))
     refine qb (fun _ k => XS.dup X227.here hx rfl (hb hby at_363) rfl rfl k) ?_
     refine qb (fun _ k => XS.bipush X227.here hx rfl (hb hby at_364) k) ?_
     obtain ⟨T228, h228, k228, X228, e228, E228, A228, Ax228, st228⟩ := newPE X227 hx hZ (hwd 234 rfl) e227 (g := (mkF m 366 #[vI p0, vI p1, vI p2, vI p3, vI v1, vI v2, vI v3, vI v4, vR b202, .unset, .unset, .unset] [(.int 47), (.ref b227), (.ref b227)])) rfl (hb hby at_366) rfl (by decide) (cap := 47) (by decide) (by decide) (by decide) (by decide) (ad := "[C") (by decide)
     obtain ⟨b228, g228⟩ : ∃ z, z = h227.size := ⟨_, rfl⟩
     have ge_b228 : n0 ≤ b228 := ql Z227 (Nat.le_of_eq g228.symm)
     have sz_b228 := ql K227.1 (Nat.le_of_eq g228.symm)
     have R228 : CHr Z consts_1 s.vm h227 s.vm h228 := CHr.ext E228 CR227.1
     have CR228 : CHr Z consts_1 s.vm h0 s.vm h228 := CR227.trans R228
     have hk228 : kc0 ≤ h228.size := ql hk227 E228.1
     have S_b228 : Safe Z consts_1 s.vm h228 b228 := Safe.ext E228 CR227.1 (Safe.new (Nat.le_of_eq g228.symm))
     have K228 : Keep h0 h228 [] := K227.ext E228
     have Z228 := ql Z227 E228.1
     rw [← g228] at A228 Ax228 st228
     have V228 : qA Z h228 b228 k228 .char (47 : Int32) (fun i => .int ((fun _ => (0 : Int32)) i)) := own_arfNew A228 (by decide)
     refine qb st228 ?_
     show qG p e below _ (T228.setTop (mkF m 368 #[vI p0, vI p1, vI p2, vI p3, vI v1, vI v2, vI v3, vI v4, vR b202, .unset, .unset, .unset] [(.ref b228), (.ref b227), (.ref b227)]))
     refine qb (fun _ k => XS.dup X228.here hx rfl (hb hby at_368) rfl rfl k) ?_
     refine qb (fun _ k => XS.iconst X228.here hx rfl (hb hby at_369) k) ?_
     refine qb (fun _ k => XS.iload X228.here hx rfl (hb hby at_370) rfl k) ?_
     obtain ⟨cl229, Ar229, qq229, S229, M229, H229, G229⟩ := id V228
     have hin229 : ¬ ((0 : Int32) < 0 ∨ cl229.slots.size ≤ ((0 : Int32)).toNatClampNeg) := inb_of S229 ⟨by decide, by decide⟩
     obtain ⟨T230, h230, X230, e230, W230, st230⟩ := stC X228 hx hZ e228 Ar229 (j := (0 : Int32)) hin229 (g := (mkF m 372 #[vI p0, vI p1, vI p2, vI p3, vI v1, vI v2, vI v3, vI v4, vR b202, .unset, .unset, .unset] [(.int v2), (.int 0), (.ref b228), (.ref b228), (.ref b227), (.ref b227)])) rfl rfl (hb hby at_372)
     have V230 : qA Z h230 b228 k228 .char (47 : Int32) (fun i => .int ((qu (fun _ => (0 : Int32)) 0 (nar .char v2)) i)) := own_arfSetI Ar229 qq229 S229 M229 H229 G229 (fits_nar_char _) W230
     have R230 : CHr Z consts_1 s.vm h228 s.vm h230 := CHr.wr W230 (own_arfSafe V228 hZ.alike (by decide)) CR228.1
     have CR230 : CHr Z consts_1 s.vm h0 s.vm h230 := CR228.trans R230
     have hk230 : kc0 ≤ h230.size := ql hk228 (Keep.of_wr W230).1
     have K230 : Keep h0 h230 [] := K228.wr W230 (Or.inr sz_b228)
     have Z230 := ql Z228 (Keep.of_wr W230).1
     have N230 := Fr.snoc X230 N215 ge_b228
     refine qb st230 ?_
     refine qb (fun _ k => XS.dup X230.here hx rfl (hb hby at_373) rfl rfl k) ?_
     refine qb (fun _ k => XS.iconst X230.here hx rfl (hb hby at_374) k) ?_
     refine qb (fun _ k => XS.iload X230.here hx rfl (hb hby at_375) rfl k) ?_
     obtain ⟨cl231, Ar231, qq231, S231, M231, H231, G231⟩ := id V230
     have hin231 : ¬ ((1 : Int32) < 0 ∨ cl231.slots.size ≤ ((1 : Int32)).toNatClampNeg) := inb_of S231 ⟨by decide, by decide⟩
     obtain ⟨T232, h232, X232, e232, W232, st232⟩ := stC X230 hx hZ e230 Ar231 (j := (1 : Int32)) hin231 (g := (mkF m 377 #[vI p0, vI p1, vI p2, vI p3, vI v1, vI v2, vI v3, vI v4, vR b202, .unset, .unset, .unset] [(.int v3), (.int 1), (.ref b228), (.ref b228), (.ref b227), (.ref b227)])) rfl rfl (hb hby at_377)
     have V232 : qA Z h232 b228 k228 .char (47 : Int32) (fun i => .int ((qu (qu (fun _ => (0 : Int32)) 0 (nar .char v2)) 1 (nar .char v3)) i)) := own_arfSetI Ar231 qq231 S231 M231 H231 G231 (fits_nar_char _) W232
     have R232 : CHr Z consts_1 s.vm h230 s.vm h232 := CHr.wr W232 (own_arfSafe V230 hZ.alike (by decide)) CR230.1
     have CR232 : CHr Z consts_1 s.vm h0 s.vm h232 := CR230.trans R232
     have hk232 : kc0 ≤ h232.size := ql hk230 (Keep.of_wr W232).1
     have K232 : Keep h0 h232 [] := K230.wr W232 (Or.inr sz_b228)
     have Z232 := ql Z230 (Keep.of_wr W232).1
     have N232 := Fr.snoc X232 N230 ge_b228
     refine qb st232 ?_
     obtain ⟨T233, h233, L233, X233, e233, N233, Kq233, V233, st233⟩ := own_fill (Ls := #[vI p0, vI p1, vI p2, vI p3, vI v1, vI v2, vI v3, vI v4, vR b202, .unset, .unset, .unset]) (rest := [(.ref b227), (.ref b227)]) hx hZ ge_b228 own_txt2 378 _ _ _ (qu (qu (fun _ => (0 : Int32)) 0 (nar .char v2)) 1 (nar .char v3)) X232 e232 V232 N232 (by rw [hby]; decide +kernel)
     have R233 : CHr Z consts_1 s.vm h232 s.vm h233 := CHr.keep Kq233 (allS (own_arfSafe V232 hZ.alike (by decide)) all0) CR232.1
     have CR233 : CHr Z consts_1 s.vm h0 s.vm h233 := CR232.trans R233
     have hk233 : kc0 ≤ h233.size := ql hk232 Kq233.1
     have K233 : Keep h0 h233 [] := K232.trans Kq233 ((allS (Or.inr sz_b228) all0))
     have Z233 := ql Z232 Kq233.1
     refine qb st233 ?_
     show qG p e below _ (T233.setTop (mkF m 644 #[vI p0, vI p1, vI p2, vI p3, vI v1, vI v2, vI v3, vI v4, vR b202, .unset, .unset, .unset] [(.ref b228), (.ref b227), (.ref b227)]))
     have F234 := ((((A227.ext E228).wr W230).wr W232).keep Kq233)
     have F235 := qk (((((qk F209 Kq215 (allS (qx F208) all0)).ext E227).ext E228).wr W230).wr W232) Kq233 (allS (qa V232) all0)
     have F236 := qk (((((qk F210 Kq215 (allS (qx F208) all0)).ext E227).ext E228).wr W230).wr W232) Kq233 (allS (qa V232) all0)
     have F237 := qk (((((qk F211 Kq215 (allS (qx F208) all0)).ext E227).ext E228).wr W230).wr W232) Kq233 (allS (qa V232) all0)
     have F238 := qk (((((qk F212 Kq215 (allS (qx F208) all0)).ext E227).ext E228).wr W230).wr W232) Kq233 (allS (qa V232) all0)
     have F239 := ((((F_coder_b227.ext E228).other W230 (Or.inl (qn A227.lt (Nat.le_of_eq g228.symm)))).other W232 (Or.inl (qn A227.lt (Nat.le_of_eq g228.symm)))).keep Kq233 (ninS (qn A227.lt (Nat.le_of_eq g228.symm)) nin0))
     have F240 := ((((F_value_b227.ext E228).other W230 (Or.inl (qn A227.lt (Nat.le_of_eq g228.symm)))).other W232 (Or.inl (qn A227.lt (Nat.le_of_eq g228.symm)))).keep Kq233 (ninS (qn A227.lt (Nat.le_of_eq g228.symm)) nin0))
     obtain ⟨_, T241, Lc241, X241, hQ241, st241⟩ := own_cI X233 hx hZ hown hml (rmsiU l Z A0 hw [] k228 (47 : Int32) (own_ff (qu (qu (fun _ => (0 : Int32)) 0 (nar .char v2)) 1 (nar .char v3)) own_txt2) f_CS b227 b228 (0 : Int32) (.null) h233 n0 Z233 F234 V233 F235 hn_CS F236 F237 F238 (show 0 ≤ ((47 : Int32)).toInt ∧ ((47 : Int32)).toInt ≤ 48 by decide) (ob_0_49 f_CS f_SF f_SS p0 p1 p2 p3 v1 v2 v3 v4 b218 hn_CS hr_f_SF hr_f_SS hv1 hv2 hv3 hv4 c5 c45 c200 hLU201 hp226) (ob_0_50 f_CS f_SF f_SS p0 p1 p2 p3 v1 v2 v3 v4 b218 hn_CS hr_f_SF hr_f_SS hv1 hv2 hv3 hv4 c5 c45 c200 hLU201 hp226) F239 F240 (show ¬ ((47 : Int32) = (0 : Int32)) by decide) (show ¬ ((47 : Int32) < (0 : Int32)) by decide) (show 47 ≤ 48 by decide) (show (47 : Int32) < (1073741823 : Int32) by decide) (show ¬ ((94 : Int32) < (0 : Int32)) by decide) (show 94 ≤ 96 by decide) ge_b227) (hwd 235 rfl) (hwd 236 rfl) (hwd 1 rfl) (hwd 237 rfl) (by decide) pd_235 e233 rfl (g := (mkF m 644 #[vI p0, vI p1, vI p2, vI p3, vI v1, vI v2, vI v3, vI v4, vR b202, .unset, .unset, .unset] [(.ref b228), (.ref b227), (.ref b227)])) (rest := [(.ref b227)]) rfl rfl rfl rfl (hb hby at_644) rfl
     obtain ⟨b242, b243, b244, rfl, Nq241, Kq241, hp245, hp246, F247, F248, F249, F250, F251, hp252⟩ := hQ241
     have N241 := Fr.app N233 Nq241
     have R241 : CHr Z consts_1 s.vm h233 s.vm T241.heap := CHr.keep Kq241 ((allS (CHr.safe (R228.trans (R230.trans (R232.trans R233))) lt_b227 S_b227) all0)) CR233.1
     have CR241 : CHr Z consts_1 s.vm h0 s.vm T241.heap := CR233.trans R241
     have hk241 : kc0 ≤ T241.heap.size := ql hk233 Kq241.1
     have K241 : Keep h0 T241.heap [] := K233.trans Kq241 ((allS (Or.inr sz_b227) all0))
     have Z241 := ql Z233 Kq241.1
     have sz_b242 := ql K233.1 hp246
     have S_b242 : Safe Z consts_1 s.vm T241.heap b242 := Safe.keep Kq241 ((allS (CHr.safe (R228.trans (R230.trans (R232.trans R233))) lt_b227 S_b227) all0)) CR233.1 (Safe.new hp246)
     have lt_b242 := F250.lt
     refine qb st241 ?_
     show qG p e below _ (T241.setTop (mkF m 647 #[vI p0, vI p1, vI p2, vI p3, vI v1, vI v2, vI v3, vI v4, vR b202, .unset, .unset, .unset] [(.ref b227)]))
     refine qb (fun _ k => XS.astore X241.here hx rfl (hb hby at_647) rfl rfl (l' := #[vI p0, vI p1, vI p2, vI p3, vI v1, vI v2, vI v3, vI v4, vR b202, vR b227, .unset, .unset]) rfl k) ?_
     show qG p e below _ (T241.setTop (mkF m 649 #[vI p0, vI p1, vI p2, vI p3, vI v1, vI v2, vI v3, vI v4, vR b202, vR b227, .unset, .unset] []))
     refine qb (fun _ k => XS.goto X241.here hx rfl (pc0 := 649) (pc' := 974) rfl (hb hby at_649) (by decide) (by decide) k) ?_
     show qG p e below _ (T241.setTop (mkF m 974 #[vI p0, vI p1, vI p2, vI p3, vI v1, vI v2, vI v3, vI v4, vR b202, vR b227, .unset, .unset] []))
     refine qb (fun _ k => XS.aload X241.here hx rfl (hb hby at_974) rfl rfl k) ?_
     have F253 := ((((((F221.ext E227).ext E228).wr W230).wr W232).keep Kq233).keep Kq241)
     have F254 := ((((((F222.ext E227).ext E228).other W230 (Or.inl (qn ((F221.ext E227)).lt (Nat.le_of_eq g228.symm)))).other W232 (Or.inl (qn ((F221.ext E227)).lt (Nat.le_of_eq g228.symm)))).keep Kq233 (ninS (qn ((F221.ext E227)).lt (Nat.le_of_eq g228.symm)) nin0)).keep Kq241 (ninS (qn F221.lt (Nat.le_of_eq g227.symm)) nin0))
     have F255 := ((((((F223.ext E227).ext E228).other W230 (Or.inl (qn ((F221.ext E227)).lt (Nat.le_of_eq g228.symm)))).other W232 (Or.inl (qn ((F221.ext E227)).lt (Nat.le_of_eq g228.symm)))).keep Kq233 (ninS (qn ((F221.ext E227)).lt (Nat.le_of_eq g228.symm)) nin0)).keep Kq241 (ninS (qn F221.lt (Nat.le_of_eq g227.symm)) nin0))
     have F256 := ((((((F225.ext E227).ext E228).other W230 (qn ((F225.ext E227)).lt (Nat.le_of_eq g228.symm))).other W232 (qn ((F225.ext E227)).lt (Nat.le_of_eq g228.symm))).keep Kq233 (ninS (qn ((F225.ext E227)).lt (Nat.le_of_eq g228.symm)) nin0)).keep Kq241 (ninS (qn F225.lt (Nat.le_of_eq g227.symm)) nin0))
     have F257 := qk F235 Kq241 (allS (qx F234) all0)
     have F258 := qk (qk (((((qk ((((P_S_SF.ext E202).ext E203).wr W205).wr W207) Kq215 (allS (qx F208) all0)).ext E227).ext E228).wr W230).wr W232) Kq233 (allS (qa V232) all0)) Kq241 (allS (qx F234) all0)
     have F259 := qk F236 Kq241 (allS (qx F234) all0)
     have F260 := qk F237 Kq241 (allS (qx F234) all0)
     have F261 := qk F238 Kq241 (allS (qx F234) all0)
     have F262 := qk (qk (((((qk ((((P_S_US.ext E202).ext E203).wr W205).wr W207) Kq215 (allS (qx F208) all0)).ext E227).ext E228).wr W230).wr W232) Kq233 (allS (qa V232) all0)) Kq241 (allS (qx F234) all0)
     have F263 := qk (qk (((((qk ((((P_S_SS.ext E202).ext E203).wr W205).wr W207) Kq215 (allS (qx F208) all0)).ext E227).ext E228).wr W230).wr W232) Kq233 (allS (qa V232) all0)) Kq241 (allS (qx F234) all0)
     have F264 := (ThS.keep Kq241 (nsS (qx F234) ns0) (ThS.keep Kq233 (nsS (qa V232) ns0) (((((ThS.keep Kq215 (nsS (qx F208) ns0) ((((P_T.ext E202).ext E203).wr W205).wr W207)).ext E227).ext E228).wr W230).wr W232)))
     obtain ⟨_, _, ⟨T265, L265, k265, n265⟩, -, X265', hSq265, hgr265, ⟨Lc265, hQ265, l265, y265, z265, R265⟩, st265⟩ := callSS X241 hx (y := (⟨"com/example/model_check_sql/modelchecksql/model/ModelReading", "noState", "(Ljava/lang/String;)Lcom/example/model_check_sql/modelchecksql/model/ModelFormatException;"⟩ : MethodName)) hown (mvT hZ (hwd 9 rfl)) (mvT hZ (hwd 10 rfl)) (mvT hZ (hwd 11 rfl)) (mvT hZ (hwd 12 rfl)) (by decide) (backOfSKH (W := 0) (rmnoU l Z A0 hw [] b216 b217 (4 : Int32) b218 f_CS f_SF f_US f_SS b202 T241.heap n0 Z241 F253 F254 F255 F256 F257 hn_CS F258 hr_f_SF F259 F260 F261 F262 F263 hr_f_SS F264 (show ¬ ((0 : Int32) < (-14 : Int32)) by decide) (show ¬ (4 : Int32) < 0 by decide) (show 0 + 4 ≤ 4 by decide) (show 0 + 4 ≤ 32 by decide) (show (0 : Int32) < (31 : Int32) by decide) (show ¬ ((62 : Int32) < (36 : Int32)) by decide) (show (0 : Int32) < (94 : Int32) by decide) (show ¬ ((2147483639 : Int32) < (94 : Int32)) by decide) (show ¬ ((94 : Int32) = (2147483647 : Int32)) by decide) (show ¬ ((94 : Int32) = (32 : Int32)) by decide) (show ¬ ((94 : Int32) < (0 : Int32)) by decide) (show 94 ≤ 96 by decide) (show ¬ ((94 : Int32) < (32 : Int32)) by decide) (show 0 + 32 ≤ 94 by decide) (show 0 ≤ ((2 : Int32)).toInt ∧ 0 ≤ ((45 : Int32)).toInt ∧ ((2 : Int32)).toInt + ((45 : Int32)).toInt ≤ 48 ∧ 2 * (((2 : Int32)).toInt + ((45 : Int32)).toInt) ≤ ((94 : Int32)).toInt by decide) (show ¬ ((47 : Int32) < (0 : Int32)) by decide) (show ¬ ((45 : Int32) < (45 : Int32)) by decide) (show (94 : Int32) = (94 : Int32) by decide) hl0) hZ (hwd 12 rfl) (hwd 11 rfl) (by decide) (by decide) hEL CR241.1 (hK.1.alikeC hS.1.alike) (hK.2.alikeC hS.1.alike)) (g := (mkF m 976 #[vI p0, vI p1, vI p2, vI p3, vI v1, vI v2, vI v3, vI v4, vR b202, vR b227, .unset, .unset] [(.ref b202)])) rfl (by rw [hml]; rfl) (argsL := [(.ref b202)]) (rest := []) (lenOf pd_9 rfl) rfl (by show 2 * 0 + _ ≤ _; exact Nat.le_of_eq rfl) (hb hby at_976) (fun _ _ => ⟨rfl, rfl, (by decide : 8 + 10 ≤ _), (by decide : 345 + 3254 ≤ _)⟩)
     dsimp only [Pt.U, Pt.locs, Pt.cells, Pt.slots] at X265' l265 y265 z265 st265 hQ265 hSq265 hgr265 R265
     subst l265 y265 z265
     obtain ⟨X265, hS, hZ, hown⟩ := rebS hS hk241 X265' hSq265 hgr265 hZ hown
     obtain ⟨kc265, hkc265⟩ : ∃ z, z = T265.heap.size := ⟨_, rfl⟩
     rw [← hkc265] at hS
     have hk265 : kc265 ≤ T265.heap.size := Nat.le_of_eq hkc265
     have CR265 : CHr Z consts_1 s.vm h0 T265.vm T265.heap := CR241.trans R265
     obtain ⟨b266, b267, b268, b269, b270, rfl, Nq265, Kq265, hp271, hp272, hp273, hp274, hp275, hp276, hp277, hp278, hp279, F280, F281, F282, F283, F284, F285, F286, hp287⟩ := hQ265
     have N265 := Fr.app N241 Nq265
     have K265 : Keep h0 T265.heap [] := K241.trans Kq265 (all0)
     have Z265 := ql Z241 Kq265.1
     have sz_b266 := ql K241.1 hp272
     have sz_b267 := ql K241.1 hp274
     have sz_b268 := ql K241.1 hp276
     refine qb (fun _ k => st265.trans k) ?_
     show qG p e below _ (T265.setTop (mkF m 979 #[vI p0, vI p1, vI p2, vI p3, vI v1, vI v2, vI v3, vI v4, vR b202, vR b227, .unset, .unset] [(.ref b266)]))
     refine qb (fun _ k => XS.astore X265.here hx rfl (hb hby at_979) rfl rfl (l' := #[vI p0, vI p1, vI p2, vI p3, vI v1, vI v2, vI v3, vI v4, vR b202, vR b227, vR b266, .unset]) rfl k) ?_
     show qG p e below _ (T265.setTop (mkF m 981 #[vI p0, vI p1, vI p2, vI p3, vI v1, vI v2, vI v3, vI v4, vR b202, vR b227, vR b266, .unset] []))
     refine qb (fun _ k => XS.aload X265.here hx rfl (hb hby at_981) rfl rfl k) ?_
     refine qb (fun _ k => XS.ifnonnullYes X265.here hx rfl (pc0 := 983) (pc' := 988) rfl (hb hby at_983) rfl (by decide) (by decide) k) ?_
     show qG p e below _ (T265.setTop (mkF m 988 #[vI p0, vI p1, vI p2, vI p3, vI v1, vI v2, vI v3, vI v4, vR b202, vR b227, vR b266, .unset] []))
     refine qb (fun _ k => XS.aload X265.here hx rfl (hb hby at_988) rfl rfl k) ?_
     obtain ⟨cq288, kq288, qq288a, qq288b, qq288c⟩ := isOf hZ rfl F280
     obtain ⟨_, _, ⟨T288, L288, k288, n288⟩, -, X288, ⟨Lc288, hQ288, l288, y288, z288⟩, st288⟩ := X265.virtualBackUp hx (x := (⟨"com/example/model_check_sql/modelchecksql/model/ModelFormatException", "getMessage", "()Ljava/lang/String;"⟩ : MethodName)) (y := (⟨"java/lang/Throwable", "getMessage", "()Ljava/lang/String;"⟩ : MethodName)) (owner := "java/lang/Throwable") hown (mvT hZ (hwd 217 rfl)) (mvT hZ (hwd 218 rfl)) (mvT hZ (hwd 219 rfl)) (by decide) (mvT hZ (hwd 221 rfl)) (mvT hZ (hwd 220 rfl)) (backOf (W := 0) (rmgetm l Z A0 hw [] b266 b267 T265.heap n0 Z265 F281) hZ (hwd 222 rfl) (hwd 178 rfl) (by decide) (by decide)) qq288a qq288c (g := (mkF m 990 #[vI p0, vI p1, vI p2, vI p3, vI v1, vI v2, vI v3, vI v4, vR b202, vR b227, vR b266, .unset] [(.ref b266)])) rfl (by rw [hml]; rfl) (Steps.refl _) (argsL := []) (rest := []) (lenOf pd_110 rfl) rfl (by show 2 * 0 + _ ≤ _; exact Nat.le_of_eq rfl) (hb hby at_990) (fun _ _ => ⟨rfl, rfl, (by decide : 18 + 0 ≤ _), (by decide : 3599 + 0 ≤ _)⟩)
     dsimp only [Pt.U, Pt.locs, Pt.cells, Pt.slots] at X288 l288 y288 z288 st288 hQ288
     subst l288 y288 z288
     obtain ⟨rfl, Nq288, eq288⟩ := hQ288
     have N288 := Fr.app N265 Nq288
     refine qb (fun _ k => st288.trans k) ?_
     show qG p e below _ (T288.setTop (mkF m 993 #[vI p0, vI p1, vI p2, vI p3, vI v1, vI v2, vI v3, vI v4, vR b202, vR b227, vR b266, .unset] [(.ref b267)]))
     refine qb (fun _ k => XS.astore X288.here hx rfl (hb hby at_993) rfl rfl (l' := #[vI p0, vI p1, vI p2, vI p3, vI v1, vI v2, vI v3, vI v4, vR b202, vR b227, vR b266, vR b267]) rfl k) ?_
     show qG p e below _ (T288.setTop (mkF m 995 #[vI p0, vI p1, vI p2, vI p3, vI v1, vI v2, vI v3, vI v4, vR b202, vR b227, vR b266, vR b267] []))
     refine qb (fun _ k => XS.aload X288.here hx rfl (hb hby at_995) rfl rfl k) ?_
     refine qb (fun _ k => XS.ifnullNo X288.here hx rfl (hb hby at_997) rfl k) ?_
     show qG p e below _ (T288.setTop (mkF m 1000 #[vI p0, vI p1, vI p2, vI p3, vI v1, vI v2, vI v3, vI v4, vR b202, vR b227, vR b266, vR b267] []))
     refine qb (fun _ k => XS.aload X288.here hx rfl (hb hby at_1000) rfl rfl k) ?_
     refine qb (fun _ k => XS.aload X288.here hx rfl (hb hby at_1002) rfl rfl k) ?_
     have F289 := (F247.keep Kq265)
     have F290 := (F248.keep Kq265 nin0)
     have F291 := (F249.keep Kq265 nin0)
     have F292 := (F251.keep Kq265 nin0)
     have F293 := qk F257 Kq265 all0
     obtain ⟨_, T294, Lc294, X294, hQ294, st294⟩ := own_cV X288 hx hZ hown hml (rmeqU l Z A0 hw [] b268 b269 (94 : Int32) b270 b242 b243 b244 f_CS b267 b227 T265.heap n0 Z265 F282 F283 F284 F285 F289 F290 F291 F292 F293 hn_CS (ob_0_51 f_CS f_SF f_SS p0 p1 p2 p3 v1 v2 v3 v4 b218 b244 b270 hn_CS hr_f_SF hr_f_SS hv1 hv2 hv3 hv4 c5 c45 c200 hLU201 hp226 hp252 hp287) (qm F251.lt hp276)) (hwd 223 rfl) (hwd 225 rfl) (hwd 1 rfl) (hwd 227 rfl) (by decide) pd_223 eq288 (hwd 224 rfl) (hwd 226 rfl) F282 (g := (mkF m 1004 #[vI p0, vI p1, vI p2, vI p3, vI v1, vI v2, vI v3, vI v4, vR b202, vR b227, vR b266, vR b267] [(.ref b227), (.ref b267)])) (rest := []) rfl rfl rfl rfl (hb hby at_1004) rfl
     obtain ⟨rfl, Nq294, Kq294, hp295⟩ := hQ294
     have N294 := Fr.app N288 Nq294
     have R294 : CHr Z consts_1 T265.vm T265.heap T265.vm T294.heap := CHr.keep Kq294 (all0) CR265.1
     have CR294 : CHr Z consts_1 s.vm h0 T265.vm T294.heap := CR265.trans R294
     have hk294 : kc265 ≤ T294.heap.size := ql hk265 Kq294.1
     have K294 : Keep h0 T294.heap [] := K265.trans Kq294 (all0)
     have Z294 := ql Z265 Kq294.1
     refine qb st294 ?_
     show qG p e below _ (T294.setTop (mkF m 1007 #[vI p0, vI p1, vI p2, vI p3, vI v1, vI v2, vI v3, vI v4, vR b202, vR b227, vR b266, vR b267] [(.int 1)]))
     refine qb (fun _ k => XS.ifNo X294.here hx rfl (hb hby at_1007) rfl ((if0 _ _).trans (feq (by decide : ¬ ((1 : Int32) = (0 : Int32)))).1) k) ?_
     show qG p e below _ (T294.setTop (mkF m 1010 #[vI p0, vI p1, vI p2, vI p3, vI v1, vI v2, vI v3, vI v4, vR b202, vR b227, vR b266, vR b267] []))
     refine qb (fun _ k => XS.iconst X294.here hx rfl (hb hby at_1010) k) ?_
     refine qb (fun _ k => XS.goto X294.here hx rfl (pc0 := 1011) (pc' := 1015) rfl (hb hby at_1011) (by decide) (by decide) k) ?_
     show qG p e below _ (T294.setTop (mkF m 1015 #[vI p0, vI p1, vI p2, vI p3, vI v1, vI v2, vI v3, vI v4, vR b202, vR b227, vR b266, vR b267] [(.int 1)]))
     exact own_retNW X294 hx hS hk294 hZ hEL hh CR294 (t := .boolean) Bd.returns (by simp) (hb hby at_1015) hlk rfl ⟨rfl, N294⟩ (by decide) (by decide)
    ·skip
     show qG p e below _ (s₁.setTop (mkF m 338 #[vI p0, vI p1, vI p2, vI p3, vI v1, vI v2, vI v3, vI v4, .unset, .unset, .unset, .unset] []))
     obtain ⟨T296, h296, X296, e296, E296, A296, D296, -, st296⟩ := newO X0 hx hZ hown (hwd 233 rfl) (hwd 2 rfl) (hwd 1 rfl) e0 (g := (mkF m 338 #[vI p0, vI p1, vI p2, vI p3, vI v1, vI v2, vI v3, vI v4, .unset, .unset, .unset, .unset] [])) rfl (hb hby at_338) (by decide) (by decide)
     obtain ⟨b296, g296⟩ : ∃ z, z = h0.size := ⟨_, rfl⟩
     have ge_b296 : n0 ≤ b296 := ql Z0 (Nat.le_of_eq g296.symm)
     have sz_b296 := ql (Keep.refl h0 []).1 (Nat.le_of_eq g296.symm)
     have R296 : CHr Z consts_1 s.vm h0 s.vm h296 := CHr.ext E296 CR0.1
     have CR296 : CHr Z consts_1 s.vm h0 s.vm h296 := CR0.trans R296
     have hk296 : kc0 ≤ h296.size := ql hk0 E296.1
     have S_b296 : Safe Z consts_1 s.vm h296 b296 := Safe.ext E296 CR0.1 (Safe.new (Nat.le_of_eq g296.symm))
     have K296 : Keep h0 h296 [] := (Keep.refl h0 []).ext E296
     have Z296 := ql Z0 E296.1
     rw [← g296] at A296 D296 st296
     have lt_b296 := A296.lt
     have F_value_b296 : Fld Z h296 b296 cS "value" "[B" .null := D296 (Or.inr (hwd 4 rfl)) (ty := (.array .byte)) (by decide)
     have F_coder_b296 : Fld Z h296 b296 cS "coder" "B" (.int 0) := D296 (Or.inr (hwd 5 rfl)) (ty := .byte) (by decide)
     refine qb st296 ?_
     show qG p e below _ (T296.setTop (mkF m 341 #[vI p0, vI p1, vI p2, vI p3, vI v1, vI v2, vI v3, vI v4, .unset, .unset, .unset, .unset] [(.ref b296)]))
     refine qb (fun _ k => XS.dup X296.here hx rfl (hb hby at_341) rfl rfl k) ?_
     refine qb (fun _ k => XS.iconst X296.here hx rfl (hb hby at_342) k) ?_
     obtain ⟨T297, h297, k297, X297, e297, E297, A297, Ax297, st297⟩ := newPE X296 hx hZ (hwd 234 rfl) e296 (g := (mkF m 343 #[vI p0, vI p1, vI p2, vI p3, vI v1, vI v2, vI v3, vI v4, .unset, .unset, .unset, .unset] [(.int 2), (.ref b296), (.ref b296)])) rfl (hb hby at_343) rfl (by decide) (cap := 2) (by decide) (by decide) (by decide) (by decide) (ad := "[C") (by decide)
     obtain ⟨b297, g297⟩ : ∃ z, z = h296.size := ⟨_, rfl⟩
     have ge_b297 : n0 ≤ b297 := ql Z296 (Nat.le_of_eq g297.symm)
     have sz_b297 := ql K296.1 (Nat.le_of_eq g297.symm)
     have R297 : CHr Z consts_1 s.vm h296 s.vm h297 := CHr.ext E297 CR296.1
     have CR297 : CHr Z consts_1 s.vm h0 s.vm h297 := CR296.trans R297
     have hk297 : kc0 ≤ h297.size := ql hk296 E297.1
     have S_b297 : Safe Z consts_1 s.vm h297 b297 := Safe.ext E297 CR296.1 (Safe.new (Nat.le_of_eq g297.symm))
     have K297 : Keep h0 h297 [] := K296.ext E297
     have Z297 := ql Z296 E297.1
     rw [← g297] at A297 Ax297 st297
     have V297 : qA Z h297 b297 k297 .char (2 : Int32) (fun i => .int ((fun _ => (0 : Int32)) i)) := own_arfNew A297 (by decide)
     refine qb st297 ?_
     show qG p e below _ (T297.setTop (mkF m 345 #[vI p0, vI p1, vI p2, vI p3, vI v1, vI v2, vI v3, vI v4, .unset, .unset, .unset, .unset] [(.ref b297), (.ref b296), (.ref b296)]))
     refine qb (fun _ k => XS.dup X297.here hx rfl (hb hby at_345) rfl rfl k) ?_
     refine qb (fun _ k => XS.iconst X297.here hx rfl (hb hby at_346) k) ?_
     refine qb (fun _ k => XS.iload X297.here hx rfl (hb hby at_347) rfl k) ?_
     obtain ⟨cl298, Ar298, qq298, S298, M298, H298, G298⟩ := id V297
     have hin298 : ¬ ((0 : Int32) < 0 ∨ cl298.slots.size ≤ ((0 : Int32)).toNatClampNeg) := inb_of S298 ⟨by decide, by decide⟩
     obtain ⟨T299, h299, X299, e299, W299, st299⟩ := stC X297 hx hZ e297 Ar298 (j := (0 : Int32)) hin298 (g := (mkF m 349 #[vI p0, vI p1, vI p2, vI p3, vI v1, vI v2, vI v3, vI v4, .unset, .unset, .unset, .unset] [(.int v2), (.int 0), (.ref b297), (.ref b297), (.ref b296), (.ref b296)])) rfl rfl (hb hby at_349)
     have V299 : qA Z h299 b297 k297 .char (2 : Int32) (fun i => .int ((qu (fun _ => (0 : Int32)) 0 (nar .char v2)) i)) := own_arfSetI Ar298 qq298 S298 M298 H298 G298 (fits_nar_char _) W299
     have R299 : CHr Z consts_1 s.vm h297 s.vm h299 := CHr.wr W299 (own_arfSafe V297 hZ.alike (by decide)) CR297.1
     have CR299 : CHr Z consts_1 s.vm h0 s.vm h299 := CR297.trans R299
     have hk299 : kc0 ≤ h299.size := ql hk297 (Keep.of_wr W299).1
     have K299 : Keep h0 h299 [] := K297.wr W299 (Or.inr sz_b297)
     have Z299 := ql Z297 (Keep.of_wr W299).1
     have N299 := Fr.snoc X299 N0 ge_b297
     refine qb st299 ?_
     refine qb (fun _ k => XS.dup X299.here hx rfl (hb hby at_350) rfl rfl k) ?_
     refine qb (fun _ k => XS.iconst X299.here hx rfl (hb hby at_351) k) ?_
     refine qb (fun _ k => XS.iload X299.here hx rfl (hb hby at_352) rfl k) ?_
     obtain ⟨cl300, Ar300, qq300, S300, M300, H300, G300⟩ := id V299
     have hin300 : ¬ ((1 : Int32) < 0 ∨ cl300.slots.size ≤ ((1 : Int32)).toNatClampNeg) := inb_of S300 ⟨by decide, by decide⟩
     obtain ⟨T301, h301, X301, e301, W301, st301⟩ := stC X299 hx hZ e299 Ar300 (j := (1 : Int32)) hin300 (g := (mkF m 354 #[vI p0, vI p1, vI p2, vI p3, vI v1, vI v2, vI v3, vI v4, .unset, .unset, .unset, .unset] [(.int v3), (.int 1), (.ref b297), (.ref b297), (.ref b296), (.ref b296)])) rfl rfl (hb hby at_354)
     have V301 : qA Z h301 b297 k297 .char (2 : Int32) (fun i => .int ((qu (qu (fun _ => (0 : Int32)) 0 (nar .char v2)) 1 (nar .char v3)) i)) := own_arfSetI Ar300 qq300 S300 M300 H300 G300 (fits_nar_char _) W301
     have R301 : CHr Z consts_1 s.vm h299 s.vm h301 := CHr.wr W301 (own_arfSafe V299 hZ.alike (by decide)) CR299.1
     have CR301 : CHr Z consts_1 s.vm h0 s.vm h301 := CR299.trans R301
     have hk301 : kc0 ≤ h301.size := ql hk299 (Keep.of_wr W301).1
     have K301 : Keep h0 h301 [] := K299.wr W301 (Or.inr sz_b297)
     have Z301 := ql Z299 (Keep.of_wr W301).1
     have N301 := Fr.snoc X301 N299 ge_b297
     refine qb st301 ?_
     have F302 := (((A296.ext E297).wr W299).wr W301)
     have F303 := ((((P_S_CS.ext E296).ext E297).wr W299).wr W301)
     have F304 := (((F_coder_b296.ext E297).other W299 (Or.inl (qn A296.lt (Nat.le_of_eq g297.symm)))).other W301 (Or.inl (qn A296.lt (Nat.le_of_eq g297.symm))))
     have F305 := (((F_value_b296.ext E297).other W299 (Or.inl (qn A296.lt (Nat.le_of_eq g297.symm)))).other W301 (Or.inl (qn A296.lt (Nat.le_of_eq g297.symm))))
     obtain ⟨_, T306, Lc306, X306, hQ306, st306⟩ := own_cI X301 hx hZ hown hml (rmsiL l Z A0 hw [] k297 (2 : Int32) (qu (qu (fun _ => (0 : Int32)) 0 (nar .char v2)) 1 (nar .char v3)) f_CS b296 b297 (0 : Int32) (.null) h301 n0 Z301 F302 V301 F303 hn_CS (show 0 ≤ ((2 : Int32)).toInt ∧ ((2 : Int32)).toInt ≤ 48 by decide) (ob_0_52 f_CS f_SF f_SS p0 p1 p2 p3 v1 v2 v3 v4 hn_CS hr_f_SF hr_f_SS hv1 hv2 hv3 hv4 c5 c45 c200 hLU201) F304 F305 (show ¬ ((2 : Int32) = (0 : Int32)) by decide) (show ¬ ((2 : Int32) < (0 : Int32)) by decide) (show 2 ≤ 48 by decide) ge_b296) (hwd 235 rfl) (hwd 236 rfl) (hwd 1 rfl) (hwd 237 rfl) (by decide) pd_235 e301 rfl (g := (mkF m 355 #[vI p0, vI p1, vI p2, vI p3, vI v1, vI v2, vI v3, vI v4, .unset, .unset, .unset, .unset] [(.ref b297), (.ref b296), (.ref b296)])) (rest := [(.ref b296)]) rfl rfl rfl rfl (hb hby at_355) rfl
     obtain ⟨b307, b308, b309, rfl, Nq306, Kq306, hp310, hp311, F312, F313, F314, F315, F316, hp317⟩ := hQ306
     have N306 := Fr.app N301 Nq306
     have R306 : CHr Z consts_1 s.vm h301 s.vm T306.heap := CHr.keep Kq306 ((allS (CHr.safe (R297.trans (R299.trans R301)) lt_b296 S_b296) all0)) CR301.1
     have CR306 : CHr Z consts_1 s.vm h0 s.vm T306.heap := CR301.trans R306
     have hk306 : kc0 ≤ T306.heap.size := ql hk301 Kq306.1
     have K306 : Keep h0 T306.heap [] := K301.trans Kq306 ((allS (Or.inr sz_b296) all0))
     have Z306 := ql Z301 Kq306.1
     have sz_b307 := ql K301.1 hp311
     have S_b307 : Safe Z consts_1 s.vm T306.heap b307 := Safe.keep Kq306 ((allS (CHr.safe (R297.trans (R299.trans R301)) lt_b296 S_b296) all0)) CR301.1 (Safe.new hp311)
     have lt_b307 := F315.lt
     refine qb st306 ?_
     show qG p e below _ (T306.setTop (mkF m 358 #[vI p0, vI p1, vI p2, vI p3, vI v1, vI v2, vI v3, vI v4, .unset, .unset, .unset, .unset] [(.ref b296)]))
     refine qb (fun _ k => XS.astore X306.here hx rfl (hb hby at_358) rfl rfl (l' := #[vI p0, vI p1, vI p2, vI p3, vI v1, vI v2, vI v3, vI v4, vR b296, .unset, .unset, .unset]) rfl k) ?_
     show qG p e below _ (T306.setTop (mkF m 360 #[vI p0, vI p1, vI p2, vI p3, vI v1, vI v2, vI v3, vI v4, vR b296, .unset, .unset, .unset] []))
     obtain ⟨T318, h318, X318, e318, E318, A318, D318, -, st318⟩ := newO X306 hx hZ hown (hwd 233 rfl) (hwd 2 rfl) (hwd 1 rfl) rfl (g := (mkF m 360 #[vI p0, vI p1, vI p2, vI p3, vI v1, vI v2, vI v3, vI v4, vR b296, .unset, .unset, .unset] [])) rfl (hb hby at_360) (by decide) (by decide)
     obtain ⟨b318, g318⟩ : ∃ z, z = T306.heap.size := ⟨_, rfl⟩
     have ge_b318 : n0 ≤ b318 := ql Z306 (Nat.le_of_eq g318.symm)
     have sz_b318 := ql K306.1 (Nat.le_of_eq g318.symm)
     have R318 : CHr Z consts_1 s.vm T306.heap s.vm h318 := CHr.ext E318 CR306.1
     have CR318 : CHr Z consts_1 s.vm h0 s.vm h318 := CR306.trans R318
     have hk318 : kc0 ≤ h318.size := ql hk306 E318.1
     have S_b318 : Safe Z consts_1 s.vm h318 b318 := Safe.ext E318 CR306.1 (Safe.new (Nat.le_of_eq g318.symm))
     have K318 : Keep h0 h318 [] := K306.ext E318
     have Z318 := ql Z306 E318.1
     rw [← g318] at A318 D318 st318
     have lt_b318 := A318.lt
     have F_value_b318 : Fld Z h318 b318 cS "value" "[B" .null := D318 (Or.inr (hwd 4 rfl)) (ty := (.array .byte)) (by decide)
     have F_coder_b318 : Fld Z h318 b318 cS "coder" "B" (.int 0) := D318 (Or.inr (hwd 5 rfl)) (ty := .byte) (by decide)
     refine qb st318 ?_
     show qG p e below _ (T318.setTop (mkF m 363 #[vI p0, vI p1, vI p2, vI p3, vI v1, vI v2, vI v3, vI v4, vR b296, .unset, .unset, .unset] [(.ref b318)]))
     refine qb (fun _ k => XS.dup X318.here hx rfl (hb hby at_363) rfl rfl k) ?_
     refine qb (fun _ k => XS.bipush X318.here hx rfl (hb hby at_364) k) ?_
     obtain ⟨T319, h319, k319, X319, e319, E319, A319, Ax319, st319⟩ := newPE X318 hx hZ (hwd 234 rfl) e318 (g := (mkF m 366 #[vI p0, vI p1, vI p2, vI p3, vI v1, vI v2, vI v3, vI v4, vR b296, .unset, .unset, .unset] [(.int 47), (.ref b318), (.ref b318)])) rfl (hb hby at_366) rfl (by decide) (cap := 47) (by decide) (by decide) (by decide) (by decide) (ad := "[C") (by decide)
     obtain ⟨b319, g319⟩ : ∃ z, z = h318.size := ⟨_, rfl⟩
     have ge_b319 : n0 ≤ b319 := ql Z318 (Nat.le_of_eq g319.symm)
     have sz_b319 := ql K318.1 (Nat.le_of_eq g319.symm)
     have R319 : CHr Z consts_1 s.vm h318 s.vm h319 := CHr.ext E319 CR318.1
     have CR319 : CHr Z consts_1 s.vm h0 s.vm h319 := CR318.trans R319
     have hk319 : kc0 ≤ h319.size := ql hk318 E319.1
     have S_b319 : Safe Z consts_1 s.vm h319 b319 := Safe.ext E319 CR318.1 (Safe.new (Nat.le_of_eq g319.symm))
     have K319 : Keep h0 h319 [] := K318.ext E319
     have Z319 := ql Z318 E319.1
     rw [← g319] at A319 Ax319 st319
     have V319 : qA Z h319 b319 k319 .char (47 : Int32) (fun i => .int ((fun _ => (0 : Int32)) i)) := own_arfNew A319 (by decide)
     refine qb st319 ?_
     show qG p e below _ (T319.setTop (mkF m 368 #[vI p0, vI p1, vI p2, vI p3, vI v1, vI v2, vI v3, vI v4, vR b296, .unset, .unset, .unset] [(.ref b319), (.ref b318), (.ref b318)]))
     refine qb (fun _ k => XS.dup X319.here hx rfl (hb hby at_368) rfl rfl k) ?_
     refine qb (fun _ k => XS.iconst X319.here hx rfl (hb hby at_369) k) ?_
     refine qb (fun _ k => XS.iload X319.here hx rfl (hb hby at_370) rfl k) ?_
     obtain ⟨cl320, Ar320, qq320, S320, M320, H320, G320⟩ := id V319
     have hin320 : ¬ ((0 : Int32) < 0 ∨ cl320.slots.size ≤ ((0 : Int32)).toNatClampNeg) := inb_of S320 ⟨by decide, by decide⟩
     obtain ⟨T321, h321, X321, e321, W321, st321⟩ := stC X319 hx hZ e319 Ar320 (j := (0 : Int32)) hin320 (g := (mkF m 372 #[vI p0, vI p1, vI p2, vI p3, vI v1, vI v2, vI v3, vI v4, vR b296, .unset, .unset, .unset] [(.int v2), (.int 0), (.ref b319), (.ref b319), (.ref b318), (.ref b318)])) rfl rfl (hb hby at_372)
     have V321 : qA Z h321 b319 k319 .char (47 : Int32) (fun i => .int ((qu (fun _ => (0 : Int32)) 0 (nar .char v2)) i)) := own_arfSetI Ar320 qq320 S320 M320 H320 G320 (fits_nar_char _) W321
     have R321 : CHr Z consts_1 s.vm h319 s.vm h321 := CHr.wr W321 (own_arfSafe V319 hZ.alike (by decide)) CR319.1
     have CR321 : CHr Z consts_1 s.vm h0 s.vm h321 := CR319.trans R321
     have hk321 : kc0 ≤ h321.size := ql hk319 (Keep.of_wr W321).1
     have K321 : Keep h0 h321 [] := K319.wr W321 (Or.inr sz_b319)
     have Z321 := ql Z319 (Keep.of_wr W321).1
     have N321 := Fr.snoc X321 N306 ge_b319
     refine qb st321 ?_
     refine qb (fun _ k => XS.dup X321.here hx rfl (hb hby at_373) rfl rfl k) ?_
     refine qb (fun _ k => XS.iconst X321.here hx rfl (hb hby at_374) k) ?_
     refine qb (fun _ k => XS.iload X321.here hx rfl (hb hby at_375) rfl k) ?_
     obtain ⟨cl322, Ar322, qq322, S322, M322, H322, G322⟩ := id V321
     have hin322 : ¬ ((1 : Int32) < 0 ∨ cl322.slots.size ≤ ((1 : Int32)).toNatClampNeg) := inb_of S322 ⟨by decide, by decide⟩
     obtain ⟨T323, h323, X323, e323, W323, st323⟩ := stC X321 hx hZ e321 Ar322 (j := (1 : Int32)) hin322 (g := (mkF m 377 #[vI p0, vI p1, vI p2, vI p3, vI v1, vI v2, vI v3, vI v4, vR b296, .unset, .unset, .unset] [(.int v3), (.int 1), (.ref b319), (.ref b319), (.ref b318), (.ref b318)])) rfl rfl (hb hby at_377)
     have V323 : qA Z h323 b319 k319 .char (47 : Int32) (fun i => .int ((qu (qu (fun _ => (0 : Int32)) 0 (nar .char v2)) 1 (nar .char v3)) i)) := own_arfSetI Ar322 qq322 S322 M322 H322 G322 (fits_nar_char _) W323
     have R323 : CHr Z consts_1 s.vm h321 s.vm h323 := CHr.wr W323 (own_arfSafe V321 hZ.alike (by decide)) CR321.1
     have CR323 : CHr Z consts_1 s.vm h0 s.vm h323 := CR321.trans R323
     have hk323 : kc0 ≤ h323.size := ql hk321 (Keep.of_wr W323).1
     have K323 : Keep h0 h323 [] := K321.wr W323 (Or.inr sz_b319)
     have Z323 := ql Z321 (Keep.of_wr W323).1
     have N323 := Fr.snoc X323 N321 ge_b319
     refine qb st323 ?_
     obtain ⟨T324, h324, L324, X324, e324, N324, Kq324, V324, st324⟩ := own_fill (Ls := #[vI p0, vI p1, vI p2, vI p3, vI v1, vI v2, vI v3, vI v4, vR b296, .unset, .unset, .unset]) (rest := [(.ref b318), (.ref b318)]) hx hZ ge_b319 own_txt2 378 _ _ _ (qu (qu (fun _ => (0 : Int32)) 0 (nar .char v2)) 1 (nar .char v3)) X323 e323 V323 N323 (by rw [hby]; decide +kernel)
     have R324 : CHr Z consts_1 s.vm h323 s.vm h324 := CHr.keep Kq324 (allS (own_arfSafe V323 hZ.alike (by decide)) all0) CR323.1
     have CR324 : CHr Z consts_1 s.vm h0 s.vm h324 := CR323.trans R324
     have hk324 : kc0 ≤ h324.size := ql hk323 Kq324.1
     have K324 : Keep h0 h324 [] := K323.trans Kq324 ((allS (Or.inr sz_b319) all0))
     have Z324 := ql Z323 Kq324.1
     refine qb st324 ?_
     show qG p e below _ (T324.setTop (mkF m 644 #[vI p0, vI p1, vI p2, vI p3, vI v1, vI v2, vI v3, vI v4, vR b296, .unset, .unset, .unset] [(.ref b319), (.ref b318), (.ref b318)]))
     have F325 := ((((A318.ext E319).wr W321).wr W323).keep Kq324)
     have F326 := qk (((((qk F303 Kq306 (allS (qx F302) all0)).ext E318).ext E319).wr W321).wr W323) Kq324 (allS (qa V323) all0)
     have F327 := ((((F_coder_b318.ext E319).other W321 (Or.inl (qn A318.lt (Nat.le_of_eq g319.symm)))).other W323 (Or.inl (qn A318.lt (Nat.le_of_eq g319.symm)))).keep Kq324 (ninS (qn A318.lt (Nat.le_of_eq g319.symm)) nin0))
     have F328 := ((((F_value_b318.ext E319).other W321 (Or.inl (qn A318.lt (Nat.le_of_eq g319.symm)))).other W323 (Or.inl (qn A318.lt (Nat.le_of_eq g319.symm)))).keep Kq324 (ninS (qn A318.lt (Nat.le_of_eq g319.symm)) nin0))
     obtain ⟨_, T329, Lc329, X329, hQ329, st329⟩ := own_cI X324 hx hZ hown hml (rmsiL l Z A0 hw [] k319 (47 : Int32) (own_ff (qu (qu (fun _ => (0 : Int32)) 0 (nar .char v2)) 1 (nar .char v3)) own_txt2) f_CS b318 b319 (0 : Int32) (.null) h324 n0 Z324 F325 V324 F326 hn_CS (show 0 ≤ ((47 : Int32)).toInt ∧ ((47 : Int32)).toInt ≤ 48 by decide) (ob_0_53 f_CS f_SF f_SS p0 p1 p2 p3 v1 v2 v3 v4 b309 hn_CS hr_f_SF hr_f_SS hv1 hv2 hv3 hv4 c5 c45 c200 hLU201 hp317) F327 F328 (show ¬ ((47 : Int32) = (0 : Int32)) by decide) (show ¬ ((47 : Int32) < (0 : Int32)) by decide) (show 47 ≤ 48 by decide) ge_b318) (hwd 235 rfl) (hwd 236 rfl) (hwd 1 rfl) (hwd 237 rfl) (by decide) pd_235 e324 rfl (g := (mkF m 644 #[vI p0, vI p1, vI p2, vI p3, vI v1, vI v2, vI v3, vI v4, vR b296, .unset, .unset, .unset] [(.ref b319), (.ref b318), (.ref b318)])) (rest := [(.ref b318)]) rfl rfl rfl rfl (hb hby at_644) rfl
     obtain ⟨b330, b331, b332, rfl, Nq329, Kq329, hp333, hp334, F335, F336, F337, F338, F339, hp340⟩ := hQ329
     have N329 := Fr.app N324 Nq329
     have R329 : CHr Z consts_1 s.vm h324 s.vm T329.heap := CHr.keep Kq329 ((allS (CHr.safe (R319.trans (R321.trans (R323.trans R324))) lt_b318 S_b318) all0)) CR324.1
     have CR329 : CHr Z consts_1 s.vm h0 s.vm T329.heap := CR324.trans R329
     have hk329 : kc0 ≤ T329.heap.size := ql hk324 Kq329.1
     have K329 : Keep h0 T329.heap [] := K324.trans Kq329 ((allS (Or.inr sz_b318) all0))
     have Z329 := ql Z324 Kq329.1
     have sz_b330 := ql K324.1 hp334
     have S_b330 : Safe Z consts_1 s.vm T329.heap b330 := Safe.keep Kq329 ((allS (CHr.safe (R319.trans (R321.trans (R323.trans R324))) lt_b318 S_b318) all0)) CR324.1 (Safe.new hp334)
     have lt_b330 := F338.lt
     refine qb st329 ?_
     show qG p e below _ (T329.setTop (mkF m 647 #[vI p0, vI p1, vI p2, vI p3, vI v1, vI v2, vI v3, vI v4, vR b296, .unset, .unset, .unset] [(.ref b318)]))
     refine qb (fun _ k => XS.astore X329.here hx rfl (hb hby at_647) rfl rfl (l' := #[vI p0, vI p1, vI p2, vI p3, vI v1, vI v2, vI v3, vI v4, vR b296, vR b318, .unset, .unset]) rfl k) ?_
     show qG p e below _ (T329.setTop (mkF m 649 #[vI p0, vI p1, vI p2, vI p3, vI v1, vI v2, vI v3, vI v4, vR b296, vR b318, .unset, .unset] []))
     refine qb (fun _ k => XS.goto X329.here hx rfl (pc0 := 649) (pc' := 974) rfl (hb hby at_649) (by decide) (by decide) k) ?_
     show qG p e below _ (T329.setTop (mkF m 974 #[vI p0, vI p1, vI p2, vI p3, vI v1, vI v2, vI v3, vI v4, vR b296, vR b318, .unset, .unset] []))
     refine qb (fun _ k => XS.aload X329.here hx rfl (hb hby at_974) rfl rfl k) ?_
     have F341 := ((((((F312.ext E318).ext E319).wr W321).wr W323).keep Kq324).keep Kq329)
     have F342 := ((((((F313.ext E318).ext E319).other W321 (Or.inl (qn ((F312.ext E318)).lt (Nat.le_of_eq g319.symm)))).other W323 (Or.inl (qn ((F312.ext E318)).lt (Nat.le_of_eq g319.symm)))).keep Kq324 (ninS (qn ((F312.ext E318)).lt (Nat.le_of_eq g319.symm)) nin0)).keep Kq329 (ninS (qn F312.lt (Nat.le_of_eq g318.symm)) nin0))
     have F343 := ((((((F314.ext E318).ext E319).other W321 (Or.inl (qn ((F312.ext E318)).lt (Nat.le_of_eq g319.symm)))).other W323 (Or.inl (qn ((F312.ext E318)).lt (Nat.le_of_eq g319.symm)))).keep Kq324 (ninS (qn ((F312.ext E318)).lt (Nat.le_of_eq g319.symm)) nin0)).keep Kq329 (ninS (qn F312.lt (Nat.le_of_eq g318.symm)) nin0))
     have F344 := ((((((F316.ext E318).ext E319).other W321 (qn ((F316.ext E318)).lt (Nat.le_of_eq g319.symm))).other W323 (qn ((F316.ext E318)).lt (Nat.le_of_eq g319.symm))).keep Kq324 (ninS (qn ((F316.ext E318)).lt (Nat.le_of_eq g319.symm)) nin0)).keep Kq329 (ninS (qn F316.lt (Nat.le_of_eq g318.symm)) nin0))
     have F345 := qk F326 Kq329 (allS (qx F325) all0)
     have F346 := qk (qk (((((qk ((((P_S_US.ext E296).ext E297).wr W299).wr W301) Kq306 (allS (qx F302) all0)).ext E318).ext E319).wr W321).wr W323) Kq324 (allS (qa V323) all0)) Kq329 (allS (qx F325) all0)
     have F347 := qk (qk (((((qk ((((P_S_SS.ext E296).ext E297).wr W299).wr W301) Kq306 (allS (qx F302) all0)).ext E318).ext E319).wr W321).wr W323) Kq324 (allS (qa V323) all0)) Kq329 (allS (qx F325) all0)
     have F348 := (ThS.keep Kq329 (nsS (qx F325) ns0) (ThS.keep Kq324 (nsS (qa V323) ns0) (((((ThS.keep Kq306 (nsS (qx F302) ns0) ((((P_T.ext E296).ext E297).wr W299).wr W301)).ext E318).ext E319).wr W321).wr W323)))
     obtain ⟨_, _, ⟨T349, L349, k349, n349⟩, -, X349', hSq349, hgr349, ⟨Lc349, hQ349, l349, y349, z349, R349⟩, st349⟩ := callSS X329 hx (y := (⟨"com/example/model_check_sql/modelchecksql/model/ModelReading", "noState", "(Ljava/lang/String;)Lcom/example/model_check_sql/modelchecksql/model/ModelFormatException;"⟩ : MethodName)) hown (mvT hZ (hwd 9 rfl)) (mvT hZ (hwd 10 rfl)) (mvT hZ (hwd 11 rfl)) (mvT hZ (hwd 12 rfl)) (by decide) (backOfSKH (W := 0) (rmnoL l Z A0 hw [] b307 b308 (2 : Int32) b309 f_CS f_US f_SS b296 T329.heap n0 Z329 F341 F342 F343 F344 F345 hn_CS F346 F347 hr_f_SS F348 (show ¬ ((0 : Int32) < (-14 : Int32)) by decide) (show ¬ (2 : Int32) < 0 by decide) (show 0 + 2 ≤ 2 by decide) (show 0 + 2 ≤ 16 by decide) (show (0 : Int32) < (31 : Int32) by decide) (show ¬ ((31 : Int32) < (18 : Int32)) by decide) (show (0 : Int32) < (47 : Int32) by decide) (show ¬ ((2147483639 : Int32) < (47 : Int32)) by decide) (show ¬ ((47 : Int32) = (2147483647 : Int32)) by decide) (show ¬ ((47 : Int32) = (16 : Int32)) by decide) (show ¬ ((47 : Int32) < (0 : Int32)) by decide) (show 47 ≤ 96 by decide) (show ¬ ((47 : Int32) < (16 : Int32)) by decide) (show 0 + 16 ≤ 47 by decide) (show ¬ (2 : Int32) < 0 by decide) (show 2 + 45 ≤ 47 by decide) (show (47 : Int32) = (47 : Int32) by decide) hl0) hZ (hwd 12 rfl) (hwd 11 rfl) (by decide) (by decide) hEL CR329.1 (hK.1.alikeC hS.1.alike) (hK.2.alikeC hS.1.alike)) (g := (mkF m 976 #[vI p0, vI p1, vI p2, vI p3, vI v1, vI v2, vI v3, vI v4, vR b296, vR b318, .unset, .unset] [(.ref b296)])) rfl (by rw [hml]; rfl) (argsL := [(.ref b296)]) (rest := []) (lenOf pd_9 rfl) rfl (by show 2 * 0 + _ ≤ _; exact Nat.le_of_eq rfl) (hb hby at_976) (fun _ _ => ⟨rfl, rfl, (by decide : 6 + 9 ≤ _), (by decide : 153 + 3158 ≤ _)⟩)
     dsimp only [Pt.U, Pt.locs, Pt.cells, Pt.slots] at X349' l349 y349 z349 st349 hQ349 hSq349 hgr349 R349
     subst l349 y349 z349
     obtain ⟨X349, hS, hZ, hown⟩ := rebS hS hk329 X349' hSq349 hgr349 hZ hown
     obtain ⟨kc349, hkc349⟩ : ∃ z, z = T349.heap.size := ⟨_, rfl⟩
     rw [← hkc349] at hS
     have hk349 : kc349 ≤ T349.heap.size := Nat.le_of_eq hkc349
     have CR349 : CHr Z consts_1 s.vm h0 T349.vm T349.heap := CR329.trans R349
     obtain ⟨b350, b351, b352, b353, rfl, Nq349, Kq349, hp354, hp355, F356, F357, hp358, hp359, F360, F361, F362, hp363, hp364, F365, F366, hp367, hp368, hp369⟩ := hQ349
     have N349 := Fr.app N329 Nq349
     have K349 : Keep h0 T349.heap [] := K329.trans Kq349 (all0)
     have Z349 := ql Z329 Kq349.1
     have sz_b350 := ql K329.1 hp355
     have sz_b351 := ql K329.1 hp359
     have sz_b352 := ql K329.1 hp364
     refine qb (fun _ k => st349.trans k) ?_
     show qG p e below _ (T349.setTop (mkF m 979 #[vI p0, vI p1, vI p2, vI p3, vI v1, vI v2, vI v3, vI v4, vR b296, vR b318, .unset, .unset] [(.ref b350)]))
     refine qb (fun _ k => XS.astore X349.here hx rfl (hb hby at_979) rfl rfl (l' := #[vI p0, vI p1, vI p2, vI p3, vI v1, vI v2, vI v3, vI v4, vR b296, vR b318, vR b350, .unset]) rfl k) ?_
     show qG p e below _ (T349.setTop (mkF m 981 #[vI p0, vI p1, vI p2, vI p3, vI v1, vI v2, vI v3, vI v4, vR b296, vR b318, vR b350, .unset] []))
     refine qb (fun _ k => XS.aload X349.here hx rfl (hb hby at_981) rfl rfl k) ?_
     refine qb (fun _ k => XS.ifnonnullYes X349.here hx rfl (pc0 := 983) (pc' := 988) rfl (hb hby at_983) rfl (by decide) (by decide) k) ?_
     show qG p e below _ (T349.setTop (mkF m 988 #[vI p0, vI p1, vI p2, vI p3, vI v1, vI v2, vI v3, vI v4, vR b296, vR b318, vR b350, .unset] []))
     refine qb (fun _ k => XS.aload X349.here hx rfl (hb hby at_988) rfl rfl k) ?_
     obtain ⟨cq370, kq370, qq370a, qq370b, qq370c⟩ := isOf hZ rfl F356
     obtain ⟨_, _, ⟨T370, L370, k370, n370⟩, -, X370, ⟨Lc370, hQ370, l370, y370, z370⟩, st370⟩ := X349.virtualBackUp hx (x := (⟨"com/example/model_check_sql/modelchecksql/model/ModelFormatException", "getMessage", "()Ljava/lang/String;"⟩ : MethodName)) (y := (⟨"java/lang/Throwable", "getMessage", "()Ljava/lang/String;"⟩ : MethodName)) (owner := "java/lang/Throwable") hown (mvT hZ (hwd 217 rfl)) (mvT hZ (hwd 218 rfl)) (mvT hZ (hwd 219 rfl)) (by decide) (mvT hZ (hwd 221 rfl)) (mvT hZ (hwd 220 rfl)) (backOf (W := 0) (rmgetm l Z A0 hw [] b350 b351 T349.heap n0 Z349 F357) hZ (hwd 222 rfl) (hwd 178 rfl) (by decide) (by decide)) qq370a qq370c (g := (mkF m 990 #[vI p0, vI p1, vI p2, vI p3, vI v1, vI v2, vI v3, vI v4, vR b296, vR b318, vR b350, .unset] [(.ref b350)])) rfl (by rw [hml]; rfl) (Steps.refl _) (argsL := []) (rest := []) (lenOf pd_110 rfl) rfl (by show 2 * 0 + _ ≤ _; exact Nat.le_of_eq rfl) (hb hby at_990) (fun _ _ => ⟨rfl, rfl, (by decide : 15 + 0 ≤ _), (by decide : 3311 + 0 ≤ _)⟩)
     dsimp only [Pt.U, Pt.locs, Pt.cells, Pt.slots] at X370 l370 y370 z370 st370 hQ370
     subst l370 y370 z370
     obtain ⟨rfl, Nq370, eq370⟩ := hQ370
     have N370 := Fr.app N349 Nq370
     refine qb (fun _ k => st370.trans k) ?_
     show qG p e below _ (T370.setTop (mkF m 993 #[vI p0, vI p1, vI p2, vI p3, vI v1, vI v2, vI v3, vI v4, vR b296, vR b318, vR b350, .unset] [(.ref b351)]))
     refine qb (fun _ k => XS.astore X370.here hx rfl (hb hby at_993) rfl rfl (l' := #[vI p0, vI p1, vI p2, vI p3, vI v1, vI v2, vI v3, vI v4, vR b296, vR b318, vR b350, vR b351]) rfl k) ?_
     show qG p e below _ (T370.setTop (mkF m 995 #[vI p0, vI p1, vI p2, vI p3, vI v1, vI v2, vI v3, vI v4, vR b296, vR b318, vR b350, vR b351] []))
     refine qb (fun _ k => XS.aload X370.here hx rfl (hb hby at_995) rfl rfl k) ?_
     refine qb (fun _ k => XS.ifnullNo X370.here hx rfl (hb hby at_997) rfl k) ?_
     show qG p e below _ (T370.setTop (mkF m 1000 #[vI p0, vI p1, vI p2, vI p3, vI v1, vI v2, vI v3, vI v4, vR b296, vR b318, vR b350, vR b351] []))
     refine qb (fun _ k => XS.aload X370.here hx rfl (hb hby at_1000) rfl rfl k) ?_
     refine qb (fun _ k => XS.aload X370.here hx rfl (hb hby at_1002) rfl rfl k) ?_
     have F371 := (F335.keep Kq349)
     have F372 := (F336.keep Kq349 nin0)
     have F373 := (F337.keep Kq349 nin0)
     have F374 := (F339.keep Kq349 nin0)
     have F375 := qk F345 Kq349 all0
     obtain ⟨_, T376, Lc376, X376, hQ376, st376⟩ := own_cV X370 hx hZ hown hml (rmeqL l Z A0 hw [] b352 b353 (47 : Int32) (own_cp (own_li own_LIT) 0 (own_cp (own_cp b309 0 (fun _ => (0 : Int32)) 0 2) 0 (fun _ => (0 : Int32)) 0 16) 2 45) b330 b331 b332 f_CS b351 b318 T349.heap n0 Z349 F360 F361 F362 F365 F371 F372 F373 F374 F375 hn_CS (ob_0_54 f_CS f_SF f_SS p0 p1 p2 p3 v1 v2 v3 v4 b309 b332 hn_CS hr_f_SF hr_f_SS hv1 hv2 hv3 hv4 c5 c45 c200 hLU201 hp317 hp340) (qm F339.lt hp364)) (hwd 223 rfl) (hwd 225 rfl) (hwd 1 rfl) (hwd 227 rfl) (by decide) pd_223 eq370 (hwd 224 rfl) (hwd 226 rfl) F360 (g := (mkF m 1004 #[vI p0, vI p1, vI p2, vI p3, vI v1, vI v2, vI v3, vI v4, vR b296, vR b318, vR b350, vR b351] [(.ref b318), (.ref b351)])) (rest := []) rfl rfl rfl rfl (hb hby at_1004) rfl
     obtain ⟨rfl, Nq376, Kq376, hp377⟩ := hQ376
     have N376 := Fr.app N370 Nq376
     have R376 : CHr Z consts_1 T349.vm T349.heap T349.vm T376.heap := CHr.keep Kq376 (all0) CR349.1
     have CR376 : CHr Z consts_1 s.vm h0 T349.vm T376.heap := CR349.trans R376
     have hk376 : kc349 ≤ T376.heap.size := ql hk349 Kq376.1
     have K376 : Keep h0 T376.heap [] := K349.trans Kq376 (all0)
     have Z376 := ql Z349 Kq376.1
     refine qb st376 ?_
     show qG p e below _ (T376.setTop (mkF m 1007 #[vI p0, vI p1, vI p2, vI p3, vI v1, vI v2, vI v3, vI v4, vR b296, vR b318, vR b350, vR b351] [(.int 1)]))
     refine qb (fun _ k => XS.ifNo X376.here hx rfl (hb hby at_1007) rfl ((if0 _ _).trans (feq (by decide : ¬ ((1 : Int32) = (0 : Int32)))).1) k) ?_
     show qG p e below _ (T376.setTop (mkF m 1010 #[vI p0, vI p1, vI p2, vI p3, vI v1, vI v2, vI v3, vI v4, vR b296, vR b318, vR b350, vR b351] []))
     refine qb (fun _ k => XS.iconst X376.here hx rfl (hb hby at_1010) k) ?_
     refine qb (fun _ k => XS.goto X376.here hx rfl (pc0 := 1011) (pc' := 1015) rfl (hb hby at_1011) (by decide) (by decide) k) ?_
     show qG p e below _ (T376.setTop (mkF m 1015 #[vI p0, vI p1, vI p2, vI p3, vI v1, vI v2, vI v3, vI v4, vR b296, vR b318, vR b350, vR b351] [(.int 1)]))
     exact own_retNW X376 hx hS hk376 hZ hEL hh CR376 (t := .boolean) Bd.returns (by simp) (hb hby at_1015) hlk rfl ⟨rfl, N376⟩ (by decide) (by decide)
   ·skip
    refine qb (fun _ k => XS.icmpYes X0.here hx rfl (pc0 := 335) (pc' := 652) rfl (hb hby at_335) rfl (feq c200).2 (by decide) (by decide) k) ?_
    show qG p e below _ (s₁.setTop (mkF m 652 #[vI p0, vI p1, vI p2, vI p3, vI v1, vI v2, vI v3, vI v4, .unset, .unset, .unset, .unset] []))
    by_cases hLU378 : (255 : Int32) < v2 ∨ (255 : Int32) < v3 ∨ (255 : Int32) < v4
    ·skip
     show qG p e below _ (s₁.setTop (mkF m 652 #[vI p0, vI p1, vI p2, vI p3, vI v1, vI v2, vI v3, vI v4, .unset, .unset, .unset, .unset] []))
     obtain ⟨T379, h379, X379, e379, E379, A379, D379, -, st379⟩ := newO X0 hx hZ hown (hwd 233 rfl) (hwd 2 rfl) (hwd 1 rfl) e0 (g := (mkF m 652 #[vI p0, vI p1, vI p2, vI p3, vI v1, vI v2, vI v3, vI v4, .unset, .unset, .unset, .unset] [])) rfl (hb hby at_652) (by decide) (by decide)
     obtain ⟨b379, g379⟩ : ∃ z, z = h0.size := ⟨_, rfl⟩
     have ge_b379 : n0 ≤ b379 := ql Z0 (Nat.le_of_eq g379.symm)
     have sz_b379 := ql (Keep.refl h0 []).1 (Nat.le_of_eq g379.symm)
     have R379 : CHr Z consts_1 s.vm h0 s.vm h379 := CHr.ext E379 CR0.1
     have CR379 : CHr Z consts_1 s.vm h0 s.vm h379 := CR0.trans R379
     have hk379 : kc0 ≤ h379.size := ql hk0 E379.1
     have S_b379 : Safe Z consts_1 s.vm h379 b379 := Safe.ext E379 CR0.1 (Safe.new (Nat.le_of_eq g379.symm))
     have K379 : Keep h0 h379 [] := (Keep.refl h0 []).ext E379
     have Z379 := ql Z0 E379.1
     rw [← g379] at A379 D379 st379
     have lt_b379 := A379.lt
     have F_value_b379 : Fld Z h379 b379 cS "value" "[B" .null := D379 (Or.inr (hwd 4 rfl)) (ty := (.array .byte)) (by decide)
     have F_coder_b379 : Fld Z h379 b379 cS "coder" "B" (.int 0) := D379 (Or.inr (hwd 5 rfl)) (ty := .byte) (by decide)
     refine qb st379 ?_
     show qG p e below _ (T379.setTop (mkF m 655 #[vI p0, vI p1, vI p2, vI p3, vI v1, vI v2, vI v3, vI v4, .unset, .unset, .unset, .unset] [(.ref b379)]))
     refine qb (fun _ k => XS.dup X379.here hx rfl (hb hby at_655) rfl rfl k) ?_
     refine qb (fun _ k => XS.iconst X379.here hx rfl (hb hby at_656) k) ?_
     obtain ⟨T380, h380, k380, X380, e380, E380, A380, Ax380, st380⟩ := newPE X379 hx hZ (hwd 234 rfl) e379 (g := (mkF m 657 #[vI p0, vI p1, vI p2, vI p3, vI v1, vI v2, vI v3, vI v4, .unset, .unset, .unset, .unset] [(.int 3), (.ref b379), (.ref b379)])) rfl (hb hby at_657) rfl (by decide) (cap := 3) (by decide) (by decide) (by decide) (by decide) (ad := "[C") (by decide)
     obtain ⟨b380, g380⟩ : ∃ z, z = h379.size := ⟨_, rfl⟩
     have ge_b380 : n0 ≤ b380 := ql Z379 (Nat.le_of_eq g380.symm)
     have sz_b380 := ql K379.1 (Nat.le_of_eq g380.symm)
     have R380 : CHr Z consts_1 s.vm h379 s.vm h380 := CHr.ext E380 CR379.1
     have CR380 : CHr Z consts_1 s.vm h0 s.vm h380 := CR379.trans R380
     have hk380 : kc0 ≤ h380.size := ql hk379 E380.1
     have S_b380 : Safe Z consts_1 s.vm h380 b380 := Safe.ext E380 CR379.1 (Safe.new (Nat.le_of_eq g380.symm))
     have K380 : Keep h0 h380 [] := K379.ext E380
     have Z380 := ql Z379 E380.1
     rw [← g380] at A380 Ax380 st380
     have V380 : qA Z h380 b380 k380 .char (3 : Int32) (fun i => .int ((fun _ => (0 : Int32)) i)) := own_arfNew A380 (by decide)
     refine qb st380 ?_
     show qG p e below _ (T380.setTop (mkF m 659 #[vI p0, vI p1, vI p2, vI p3, vI v1, vI v2, vI v3, vI v4, .unset, .unset, .unset, .unset] [(.ref b380), (.ref b379), (.ref b379)]))
     refine qb (fun _ k => XS.dup X380.here hx rfl (hb hby at_659) rfl rfl k) ?_
     refine qb (fun _ k => XS.iconst X380.here hx rfl (hb hby at_660) k) ?_
     refine qb (fun _ k => XS.iload X380.here hx rfl (hb hby at_661) rfl k) ?_
     obtain ⟨cl381, Ar381, qq381, S381, M381, H381, G381⟩ := id V380
     have hin381 : ¬ ((0 : Int32) < 0 ∨ cl381.slots.size ≤ ((0 : Int32)).toNatClampNeg) := inb_of S381 ⟨by decide, by decide⟩
     obtain ⟨T382, h382, X382, e382, W382, st382⟩ := stC X380 hx hZ e380 Ar381 (j := (0 : Int32)) hin381 (g := (mkF m 663 #[vI p0, vI p1, vI p2, vI p3, vI v1, vI v2, vI v3, vI v4, .unset, .unset, .unset, .unset] [(.int v2), (.int 0), (.ref b380), (.ref b380), (.ref b379), (.ref b379)])) rfl rfl (hb hby at_663)
     have V382 : qA Z h382 b380 k380 .char (3 : Int32) (fun i => .int ((qu (fun _ => (0 : Int32)) 0 (nar .char v2)) i)) := own_arfSetI Ar381 qq381 S381 M381 H381 G381 (fits_nar_char _) W382
     have R382 : CHr Z consts_1 s.vm h380 s.vm h382 := CHr.wr W382 (own_arfSafe V380 hZ.alike (by decide)) CR380.1
     have CR382 : CHr Z consts_1 s.vm h0 s.vm h382 := CR380.trans R382
     have hk382 : kc0 ≤ h382.size := ql hk380 (Keep.of_wr W382).1
     have K382 : Keep h0 h382 [] := K380.wr W382 (Or.inr sz_b380)
     have Z382 := ql Z380 (Keep.of_wr W382).1
     have N382 := Fr.snoc X382 N0 ge_b380
     refine qb st382 ?_
     refine qb (fun _ k => XS.dup X382.here hx rfl (hb hby at_664) rfl rfl k) ?_
     refine qb (fun _ k => XS.iconst X382.here hx rfl (hb hby at_665) k) ?_
     refine qb (fun _ k => XS.iload X382.here hx rfl (hb hby at_666) rfl k) ?_
     obtain ⟨cl383, Ar383, qq383, S383, M383, H383, G383⟩ := id V382
     have hin383 : ¬ ((1 : Int32) < 0 ∨ cl383.slots.size ≤ ((1 : Int32)).toNatClampNeg) := inb_of S383 ⟨by decide, by decide⟩
     obtain ⟨T384, h384, X384, e384, W384, st384⟩ := stC X382 hx hZ e382 Ar383 (j := (1 : Int32)) hin383 (g := (mkF m 668 #[vI p0, vI p1, vI p2, vI p3, vI v1, vI v2, vI v3, vI v4, .unset, .unset, .unset, .unset] [(.int v3), (.int 1), (.ref b380), (.ref b380), (.ref b379), (.ref b379)])) rfl rfl (hb hby at_668)
     have V384 : qA Z h384 b380 k380 .char (3 : Int32) (fun i => .int ((qu (qu (fun _ => (0 : Int32)) 0 (nar .char v2)) 1 (nar .char v3)) i)) := own_arfSetI Ar383 qq383 S383 M383 H383 G383 (fits_nar_char _) W384
     have R384 : CHr Z consts_1 s.vm h382 s.vm h384 := CHr.wr W384 (own_arfSafe V382 hZ.alike (by decide)) CR382.1
     have CR384 : CHr Z consts_1 s.vm h0 s.vm h384 := CR382.trans R384
     have hk384 : kc0 ≤ h384.size := ql hk382 (Keep.of_wr W384).1
     have K384 : Keep h0 h384 [] := K382.wr W384 (Or.inr sz_b380)
     have Z384 := ql Z382 (Keep.of_wr W384).1
     have N384 := Fr.snoc X384 N382 ge_b380
     refine qb st384 ?_
     refine qb (fun _ k => XS.dup X384.here hx rfl (hb hby at_669) rfl rfl k) ?_
     refine qb (fun _ k => XS.iconst X384.here hx rfl (hb hby at_670) k) ?_
     refine qb (fun _ k => XS.iload X384.here hx rfl (hb hby at_671) rfl k) ?_
     obtain ⟨cl385, Ar385, qq385, S385, M385, H385, G385⟩ := id V384
     have hin385 : ¬ ((2 : Int32) < 0 ∨ cl385.slots.size ≤ ((2 : Int32)).toNatClampNeg) := inb_of S385 ⟨by decide, by decide⟩
     obtain ⟨T386, h386, X386, e386, W386, st386⟩ := stC X384 hx hZ e384 Ar385 (j := (2 : Int32)) hin385 (g := (mkF m 673 #[vI p0, vI p1, vI p2, vI p3, vI v1, vI v2, vI v3, vI v4, .unset, .unset, .unset, .unset] [(.int v4), (.int 2), (.ref b380), (.ref b380), (.ref b379), (.ref b379)])) rfl rfl (hb hby at_673)
     have V386 : qA Z h386 b380 k380 .char (3 : Int32) (fun i => .int ((qu (qu (qu (fun _ => (0 : Int32)) 0 (nar .char v2)) 1 (nar .char v3)) 2 (nar .char v4)) i)) := own_arfSetI Ar385 qq385 S385 M385 H385 G385 (fits_nar_char _) W386
     have R386 : CHr Z consts_1 s.vm h384 s.vm h386 := CHr.wr W386 (own_arfSafe V384 hZ.alike (by decide)) CR384.1
     have CR386 : CHr Z consts_1 s.vm h0 s.vm h386 := CR384.trans R386
     have hk386 : kc0 ≤ h386.size := ql hk384 (Keep.of_wr W386).1
     have K386 : Keep h0 h386 [] := K384.wr W386 (Or.inr sz_b380)
     have Z386 := ql Z384 (Keep.of_wr W386).1
     have N386 := Fr.snoc X386 N384 ge_b380
     refine qb st386 ?_
     have F387 := ((((A379.ext E380).wr W382).wr W384).wr W386)
     have F388 := (((((P_S_CS.ext E379).ext E380).wr W382).wr W384).wr W386)
     have F389 := (((((P_S_UD.ext E379).ext E380).wr W382).wr W384).wr W386)
     have F390 := (((((P_S_HI_BYTE_SHIFT.ext E379).ext E380).wr W382).wr W384).wr W386)
     have F391 := (((((P_S_LO_BYTE_SHIFT.ext E379).ext E380).wr W382).wr W384).wr W386)
     have F392 := ((((F_coder_b379.ext E380).other W382 (Or.inl (qn A379.lt (Nat.le_of_eq g380.symm)))).other W384 (Or.inl (qn A379.lt (Nat.le_of_eq g380.symm)))).other W386 (Or.inl (qn A379.lt (Nat.le_of_eq g380.symm))))
     have F393 := ((((F_value_b379.ext E380).other W382 (Or.inl (qn A379.lt (Nat.le_of_eq g380.symm)))).other W384 (Or.inl (qn A379.lt (Nat.le_of_eq g380.symm)))).other W386 (Or.inl (qn A379.lt (Nat.le_of_eq g380.symm))))
     obtain ⟨_, T394, Lc394, X394, hQ394, st394⟩ := own_cI X386 hx hZ hown hml (rmsiU l Z A0 hw [] k380 (3 : Int32) (qu (qu (qu (fun _ => (0 : Int32)) 0 (nar .char v2)) 1 (nar .char v3)) 2 (nar .char v4)) f_CS b379 b380 (0 : Int32) (.null) h386 n0 Z386 F387 V386 F388 hn_CS F389 F390 F391 (show 0 ≤ ((3 : Int32)).toInt ∧ ((3 : Int32)).toInt ≤ 48 by decide) (ob_0_55 f_CS f_SF f_SS p0 p1 p2 p3 v1 v2 v3 v4 hn_CS hr_f_SF hr_f_SS hv1 hv2 hv3 hv4 c5 c45 c200 hLU378) (ob_0_56 f_CS f_SF f_SS p0 p1 p2 p3 v1 v2 v3 v4 hn_CS hr_f_SF hr_f_SS hv1 hv2 hv3 hv4 c5 c45 c200 hLU378) F392 F393 (show ¬ ((3 : Int32) = (0 : Int32)) by decide) (show ¬ ((3 : Int32) < (0 : Int32)) by decide) (show 3 ≤ 48 by decide) (show (3 : Int32) < (1073741823 : Int32) by decide) (show ¬ ((6 : Int32) < (0 : Int32)) by decide) (show 6 ≤ 96 by decide) ge_b379) (hwd 235 rfl) (hwd 236 rfl) (hwd 1 rfl) (hwd 237 rfl) (by decide) pd_235 e386 rfl (g := (mkF m 674 #[vI p0, vI p1, vI p2, vI p3, vI v1, vI v2, vI v3, vI v4, .unset, .unset, .unset, .unset] [(.ref b380), (.ref b379), (.ref b379)])) (rest := [(.ref b379)]) rfl rfl rfl rfl (hb hby at_674) rfl
     obtain ⟨b395, b396, b397, rfl, Nq394, Kq394, hp398, hp399, F400, F401, F402, F403, F404, hp405⟩ := hQ394
     have N394 := Fr.app N386 Nq394
     have R394 : CHr Z consts_1 s.vm h386 s.vm T394.heap := CHr.keep Kq394 ((allS (CHr.safe (R380.trans (R382.trans (R384.trans R386))) lt_b379 S_b379) all0)) CR386.1
     have CR394 : CHr Z consts_1 s.vm h0 s.vm T394.heap := CR386.trans R394
     have hk394 : kc0 ≤ T394.heap.size := ql hk386 Kq394.1
     have K394 : Keep h0 T394.heap [] := K386.trans Kq394 ((allS (Or.inr sz_b379) all0))
     have Z394 := ql Z386 Kq394.1
     have sz_b395 := ql K386.1 hp399
     have S_b395 : Safe Z consts_1 s.vm T394.heap b395 := Safe.keep Kq394 ((allS (CHr.safe (R380.trans (R382.trans (R384.trans R386))) lt_b379 S_b379) all0)) CR386.1 (Safe.new hp399)
     have lt_b395 := F403.lt
     refine qb st394 ?_
     show qG p e below _ (T394.setTop (mkF m 677 #[vI p0, vI p1, vI p2, vI p3, vI v1, vI v2, vI v3, vI v4, .unset, .unset, .unset, .unset] [(.ref b379)]))
     refine qb (fun _ k => XS.astore X394.here hx rfl (hb hby at_677) rfl rfl (l' := #[vI p0, vI p1, vI p2, vI p3, vI v1, vI v2, vI v3, vI v4, vR b379, .unset, .unset, .unset]) rfl k) ?_
     show qG p e below _ (T394.setTop (mkF m 679 #[vI p0, vI p1, vI p2, vI p3, vI v1, vI v2, vI v3, vI v4, vR b379, .unset, .unset, .unset] []))
     obtain ⟨T406, h406, X406, e406, E406, A406, D406, -, st406⟩ := newO X394 hx hZ hown (hwd 233 rfl) (hwd 2 rfl) (hwd 1 rfl) rfl (g := (mkF m 679 #[vI p0, vI p1, vI p2, vI p3, vI v1, vI v2, vI v3, vI v4, vR b379, .unset, .unset, .unset] [])) rfl (hb hby at_679) (by decide) (by decide)
     obtain ⟨b406, g406⟩ : ∃ z, z = T394.heap.size := ⟨_, rfl⟩
     have ge_b406 : n0 ≤ b406 := ql Z394 (Nat.le_of_eq g406.symm)
     have sz_b406 := ql K394.1 (Nat.le_of_eq g406.symm)
     have R406 : CHr Z consts_1 s.vm T394.heap s.vm h406 := CHr.ext E406 CR394.1
     have CR406 : CHr Z consts_1 s.vm h0 s.vm h406 := CR394.trans R406
     have hk406 : kc0 ≤ h406.size := ql hk394 E406.1
     have S_b406 : Safe Z consts_1 s.vm h406 b406 := Safe.ext E406 CR394.1 (Safe.new (Nat.le_of_eq g406.symm))
     have K406 : Keep h0 h406 [] := K394.ext E406
     have Z406 := ql Z394 E406.1
     rw [← g406] at A406 D406 st406
     have lt_b406 := A406.lt
     have F_value_b406 : Fld Z h406 b406 cS "value" "[B" .null := D406 (Or.inr (hwd 4 rfl)) (ty := (.array .byte)) (by decide)
     have F_coder_b406 : Fld Z h406 b406 cS "coder" "B" (.int 0) := D406 (Or.inr (hwd 5 rfl)) (ty := .byte) (by decide)
     refine qb st406 ?_
     show qG p e below _ (T406.setTop (mkF m 682 #[vI p0, vI p1, vI p2, vI p3, vI v1, vI v2, vI v3, vI v4, vR b379, .unset, .unset, .unset] [(.ref b406)]))
     refine qb (fun _ k => XS.dup X406.here hx rfl (hb hby at_682) rfl rfl k) ?_
     refine qb (fun _ k => XS.bipush X406.here hx rfl (hb hby at_683) k) ?_
     obtain ⟨T407, h407, k407, X407, e407, E407, A407, Ax407, st407⟩ := newPE X406 hx hZ (hwd 234 rfl) e406 (g := (mkF m 685 #[vI p0, vI p1, vI p2, vI p3, vI v1, vI v2, vI v3, vI v4, vR b379, .unset, .unset, .unset] [(.int 48), (.ref b406), (.ref b406)])) rfl (hb hby at_685) rfl (by decide) (cap := 48) (by decide) (by decide) (by decide) (by decide) (ad := "[C") (by decide)
     obtain ⟨b407, g407⟩ : ∃ z, z = h406.size := ⟨_, rfl⟩
     have ge_b407 : n0 ≤ b407 := ql Z406 (Nat.le_of_eq g407.symm)
     have sz_b407 := ql K406.1 (Nat.le_of_eq g407.symm)
     have R407 : CHr Z consts_1 s.vm h406 s.vm h407 := CHr.ext E407 CR406.1
     have CR407 : CHr Z consts_1 s.vm h0 s.vm h407 := CR406.trans R407
     have hk407 : kc0 ≤ h407.size := ql hk406 E407.1
     have S_b407 : Safe Z consts_1 s.vm h407 b407 := Safe.ext E407 CR406.1 (Safe.new (Nat.le_of_eq g407.symm))
     have K407 : Keep h0 h407 [] := K406.ext E407
     have Z407 := ql Z406 E407.1
     rw [← g407] at A407 Ax407 st407
     have V407 : qA Z h407 b407 k407 .char (48 : Int32) (fun i => .int ((fun _ => (0 : Int32)) i)) := own_arfNew A407 (by decide)
     refine qb st407 ?_
     show qG p e below _ (T407.setTop (mkF m 687 #[vI p0, vI p1, vI p2, vI p3, vI v1, vI v2, vI v3, vI v4, vR b379, .unset, .unset, .unset] [(.ref b407), (.ref b406), (.ref b406)]))
     refine qb (fun _ k => XS.dup X407.here hx rfl (hb hby at_687) rfl rfl k) ?_
     refine qb (fun _ k => XS.iconst X407.here hx rfl (hb hby at_688) k) ?_
     refine qb (fun _ k => XS.iload X407.here hx rfl (hb hby at_689) rfl k) ?_
     obtain ⟨cl408, Ar408, qq408, S408, M408, H408, G408⟩ := id V407
     have hin408 : ¬ ((0 : Int32) < 0 ∨ cl408.slots.size ≤ ((0 : Int32)).toNatClampNeg) := inb_of S408 ⟨by decide, by decide⟩
     obtain ⟨T409, h409, X409, e409, W409, st409⟩ := stC X407 hx hZ e407 Ar408 (j := (0 : Int32)) hin408 (g := (mkF m 691 #[vI p0, vI p1, vI p2, vI p3, vI v1, vI v2, vI v3, vI v4, vR b379, .unset, .unset, .unset] [(.int v2), (.int 0), (.ref b407), (.ref b407), (.ref b406), (.ref b406)])) rfl rfl (hb hby at_691)
     have V409 : qA Z h409 b407 k407 .char (48 : Int32) (fun i => .int ((qu (fun _ => (0 : Int32)) 0 (nar .char v2)) i)) := own_arfSetI Ar408 qq408 S408 M408 H408 G408 (fits_nar_char _) W409
     have R409 : CHr Z consts_1 s.vm h407 s.vm h409 := CHr.wr W409 (own_arfSafe V407 hZ.alike (by decide)) CR407.1
     have CR409 : CHr Z consts_1 s.vm h0 s.vm h409 := CR407.trans R409
     have hk409 : kc0 ≤ h409.size := ql hk407 (Keep.of_wr W409).1
     have K409 : Keep h0 h409 [] := K407.wr W409 (Or.inr sz_b407)
     have Z409 := ql Z407 (Keep.of_wr W409).1
     have N409 := Fr.snoc X409 N394 ge_b407
     refine qb st409 ?_
     refine qb (fun _ k => XS.dup X409.here hx rfl (hb hby at_692) rfl rfl k) ?_
     refine qb (fun _ k => XS.iconst X409.here hx rfl (hb hby at_693) k) ?_
     refine qb (fun _ k => XS.iload X409.here hx rfl (hb hby at_694) rfl k) ?_
     obtain ⟨cl410, Ar410, qq410, S410, M410, H410, G410⟩ := id V409
     have hin410 : ¬ ((1 : Int32) < 0 ∨ cl410.slots.size ≤ ((1 : Int32)).toNatClampNeg) := inb_of S410 ⟨by decide, by decide⟩
     obtain ⟨T411, h411, X411, e411, W411, st411⟩ := stC X409 hx hZ e409 Ar410 (j := (1 : Int32)) hin410 (g := (mkF m 696 #[vI p0, vI p1, vI p2, vI p3, vI v1, vI v2, vI v3, vI v4, vR b379, .unset, .unset, .unset] [(.int v3), (.int 1), (.ref b407), (.ref b407), (.ref b406), (.ref b406)])) rfl rfl (hb hby at_696)
     have V411 : qA Z h411 b407 k407 .char (48 : Int32) (fun i => .int ((qu (qu (fun _ => (0 : Int32)) 0 (nar .char v2)) 1 (nar .char v3)) i)) := own_arfSetI Ar410 qq410 S410 M410 H410 G410 (fits_nar_char _) W411
     have R411 : CHr Z consts_1 s.vm h409 s.vm h411 := CHr.wr W411 (own_arfSafe V409 hZ.alike (by decide)) CR409.1
     have CR411 : CHr Z consts_1 s.vm h0 s.vm h411 := CR409.trans R411
     have hk411 : kc0 ≤ h411.size := ql hk409 (Keep.of_wr W411).1
     have K411 : Keep h0 h411 [] := K409.wr W411 (Or.inr sz_b407)
     have Z411 := ql Z409 (Keep.of_wr W411).1
     have N411 := Fr.snoc X411 N409 ge_b407
     refine qb st411 ?_
     refine qb (fun _ k => XS.dup X411.here hx rfl (hb hby at_697) rfl rfl k) ?_
     refine qb (fun _ k => XS.iconst X411.here hx rfl (hb hby at_698) k) ?_
     refine qb (fun _ k => XS.iload X411.here hx rfl (hb hby at_699) rfl k) ?_
     obtain ⟨cl412, Ar412, qq412, S412, M412, H412, G412⟩ := id V411
     have hin412 : ¬ ((2 : Int32) < 0 ∨ cl412.slots.size ≤ ((2 : Int32)).toNatClampNeg) := inb_of S412 ⟨by decide, by decide⟩
     obtain ⟨T413, h413, X413, e413, W413, st413⟩ := stC X411 hx hZ e411 Ar412 (j := (2 : Int32)) hin412 (g := (mkF m 701 #[vI p0, vI p1, vI p2, vI p3, vI v1, vI v2, vI v3, vI v4, vR b379, .unset, .unset, .unset] [(.int v4), (.int 2), (.ref b407), (.ref b407), (.ref b406), (.ref b406)])) rfl rfl (hb hby at_701)
     have V413 : qA Z h413 b407 k407 .char (48 : Int32) (fun i => .int ((qu (qu (qu (fun _ => (0 : Int32)) 0 (nar .char v2)) 1 (nar .char v3)) 2 (nar .char v4)) i)) := own_arfSetI Ar412 qq412 S412 M412 H412 G412 (fits_nar_char _) W413
     have R413 : CHr Z consts_1 s.vm h411 s.vm h413 := CHr.wr W413 (own_arfSafe V411 hZ.alike (by decide)) CR411.1
     have CR413 : CHr Z consts_1 s.vm h0 s.vm h413 := CR411.trans R413
     have hk413 : kc0 ≤ h413.size := ql hk411 (Keep.of_wr W413).1
     have K413 : Keep h0 h413 [] := K411.wr W413 (Or.inr sz_b407)
     have Z413 := ql Z411 (Keep.of_wr W413).1
     have N413 := Fr.snoc X413 N411 ge_b407
     refine qb st413 ?_
     obtain ⟨T414, h414, L414, X414, e414, N414, Kq414, V414, st414⟩ := own_fill (Ls := #[vI p0, vI p1, vI p2, vI p3, vI v1, vI v2, vI v3, vI v4, vR b379, .unset, .unset, .unset]) (rest := [(.ref b406), (.ref b406)]) hx hZ ge_b407 own_txt3 702 _ _ _ (qu (qu (qu (fun _ => (0 : Int32)) 0 (nar .char v2)) 1 (nar .char v3)) 2 (nar .char v4)) X413 e413 V413 N413 (by rw [hby]; decide +kernel)
     have R414 : CHr Z consts_1 s.vm h413 s.vm h414 := CHr.keep Kq414 (allS (own_arfSafe V413 hZ.alike (by decide)) all0) CR413.1
     have CR414 : CHr Z consts_1 s.vm h0 s.vm h414 := CR413.trans R414
     have hk414 : kc0 ≤ h414.size := ql hk413 Kq414.1
     have K414 : Keep h0 h414 [] := K413.trans Kq414 ((allS (Or.inr sz_b407) all0))
     have Z414 := ql Z413 Kq414.1
     refine qb st414 ?_
     show qG p e below _ (T414.setTop (mkF m 969 #[vI p0, vI p1, vI p2, vI p3, vI v1, vI v2, vI v3, vI v4, vR b379, .unset, .unset, .unset] [(.ref b407), (.ref b406), (.ref b406)]))
     have F415 := (((((A406.ext E407).wr W409).wr W411).wr W413).keep Kq414)
     have F416 := qk ((((((qk F388 Kq394 (allS (qx F387) all0)).ext E406).ext E407).wr W409).wr W411).wr W413) Kq414 (allS (qa V413) all0)
     have F417 := qk ((((((qk F389 Kq394 (allS (qx F387) all0)).ext E406).ext E407).wr W409).wr W411).wr W413) Kq414 (allS (qa V413) all0)
     have F418 := qk ((((((qk F390 Kq394 (allS (qx F387) all0)).ext E406).ext E407).wr W409).wr W411).wr W413) Kq414 (allS (qa V413) all0)
     have F419 := qk ((((((qk F391 Kq394 (allS (qx F387) all0)).ext E406).ext E407).wr W409).wr W411).wr W413) Kq414 (allS (qa V413) all0)
     have F420 := (((((F_coder_b406.ext E407).other W409 (Or.inl (qn A406.lt (Nat.le_of_eq g407.symm)))).other W411 (Or.inl (qn A406.lt (Nat.le_of_eq g407.symm)))).other W413 (Or.inl (qn A406.lt (Nat.le_of_eq g407.symm)))).keep Kq414 (ninS (qn A406.lt (Nat.le_of_eq g407.symm)) nin0))
     have F421 := (((((F_value_b406.ext E407).other W409 (Or.inl (qn A406.lt (Nat.le_of_eq g407.symm)))).other W411 (Or.inl (qn A406.lt (Nat.le_of_eq g407.symm)))).other W413 (Or.inl (qn A406.lt (Nat.le_of_eq g407.symm)))).keep Kq414 (ninS (qn A406.lt (Nat.le_of_eq g407.symm)) nin0))
     obtain ⟨_, T422, Lc422, X422, hQ422, st422⟩ := own_cI X414 hx hZ hown hml (rmsiU l Z A0 hw [] k407 (48 : Int32) (own_ff (qu (qu (qu (fun _ => (0 : Int32)) 0 (nar .char v2)) 1 (nar .char v3)) 2 (nar .char v4)) own_txt3) f_CS b406 b407 (0 : Int32) (.null) h414 n0 Z414 F415 V414 F416 hn_CS F417 F418 F419 (show 0 ≤ ((48 : Int32)).toInt ∧ ((48 : Int32)).toInt ≤ 48 by decide) (ob_0_57 f_CS f_SF f_SS p0 p1 p2 p3 v1 v2 v3 v4 b397 hn_CS hr_f_SF hr_f_SS hv1 hv2 hv3 hv4 c5 c45 c200 hLU378 hp405) (ob_0_58 f_CS f_SF f_SS p0 p1 p2 p3 v1 v2 v3 v4 b397 hn_CS hr_f_SF hr_f_SS hv1 hv2 hv3 hv4 c5 c45 c200 hLU378 hp405) F420 F421 (show ¬ ((48 : Int32) = (0 : Int32)) by decide) (show ¬ ((48 : Int32) < (0 : Int32)) by decide) (show 48 ≤ 48 by decide) (show (48 : Int32) < (1073741823 : Int32) by decide) (show ¬ ((96 : Int32) < (0 : Int32)) by decide) (show 96 ≤ 96 by decide) ge_b406) (hwd 235 rfl) (hwd 236 rfl) (hwd 1 rfl) (hwd 237 rfl) (by decide) pd_235 e414 rfl (g := (mkF m 969 #[vI p0, vI p1, vI p2, vI p3, vI v1, vI v2, vI v3, vI v4, vR b379, .unset, .unset, .unset] [(.ref b407), (.ref b406), (.ref b406)])) (rest := [(.ref b406)]) rfl rfl rfl rfl (hb hby at_969) rfl
     obtain ⟨b423, b424, b425, rfl, Nq422, Kq422, hp426, hp427, F428, F429, F430, F431, F432, hp433⟩ := hQ422
     have N422 := Fr.app N414 Nq422
     have R422 : CHr Z consts_1 s.vm h414 s.vm T422.heap := CHr.keep Kq422 ((allS (CHr.safe (R407.trans (R409.trans (R411.trans (R413.trans R414)))) lt_b406 S_b406) all0)) CR414.1
     have CR422 : CHr Z consts_1 s.vm h0 s.vm T422.heap := CR414.trans R422
     have hk422 : kc0 ≤ T422.heap.size := ql hk414 Kq422.1
     have K422 : Keep h0 T422.heap [] := K414.trans Kq422 ((allS (Or.inr sz_b406) all0))
     have Z422 := ql Z414 Kq422.1
     have sz_b423 := ql K414.1 hp427
     have S_b423 : Safe Z consts_1 s.vm T422.heap b423 := Safe.keep Kq422 ((allS (CHr.safe (R407.trans (R409.trans (R411.trans (R413.trans R414)))) lt_b406 S_b406) all0)) CR414.1 (Safe.new hp427)
     have lt_b423 := F431.lt
     refine qb st422 ?_
     show qG p e below _ (T422.setTop (mkF m 972 #[vI p0, vI p1, vI p2, vI p3, vI v1, vI v2, vI v3, vI v4, vR b379, .unset, .unset, .unset] [(.ref b406)]))
     refine qb (fun _ k => XS.astore X422.here hx rfl (hb hby at_972) rfl rfl (l' := #[vI p0, vI p1, vI p2, vI p3, vI v1, vI v2, vI v3, vI v4, vR b379, vR b406, .unset, .unset]) rfl k) ?_
     show qG p e below _ (T422.setTop (mkF m 974 #[vI p0, vI p1, vI p2, vI p3, vI v1, vI v2, vI v3, vI v4, vR b379, vR b406, .unset, .unset] []))
     refine qb (fun _ k => XS.aload X422.here hx rfl (hb hby at_974) rfl rfl k) ?_
     have F434 := (((((((F400.ext E406).ext E407).wr W409).wr W411).wr W413).keep Kq414).keep Kq422)
     have F435 := (((((((F401.ext E406).ext E407).other W409 (Or.inl (qn ((F400.ext E406)).lt (Nat.le_of_eq g407.symm)))).other W411 (Or.inl (qn ((F400.ext E406)).lt (Nat.le_of_eq g407.symm)))).other W413 (Or.inl (qn ((F400.ext E406)).lt (Nat.le_of_eq g407.symm)))).keep Kq414 (ninS (qn ((F400.ext E406)).lt (Nat.le_of_eq g407.symm)) nin0)).keep Kq422 (ninS (qn F400.lt (Nat.le_of_eq g406.symm)) nin0))
     have F436 := (((((((F402.ext E406).ext E407).other W409 (Or.inl (qn ((F400.ext E406)).lt (Nat.le_of_eq g407.symm)))).other W411 (Or.inl (qn ((F400.ext E406)).lt (Nat.le_of_eq g407.symm)))).other W413 (Or.inl (qn ((F400.ext E406)).lt (Nat.le_of_eq g407.symm)))).keep Kq414 (ninS (qn ((F400.ext E406)).lt (Nat.le_of_eq g407.symm)) nin0)).keep Kq422 (ninS (qn F400.lt (Nat.le_of_eq g406.symm)) nin0))
     have F437 := (((((((F404.ext E406).ext E407).other W409 (qn ((F404.ext E406)).lt (Nat.le_of_eq g407.symm))).other W411 (qn ((F404.ext E406)).lt (Nat.le_of_eq g407.symm))).other W413 (qn ((F404.ext E406)).lt (Nat.le_of_eq g407.symm))).keep Kq414 (ninS (qn ((F404.ext E406)).lt (Nat.le_of_eq g407.symm)) nin0)).keep Kq422 (ninS (qn F404.lt (Nat.le_of_eq g406.symm)) nin0))
     have F438 := qk F416 Kq422 (allS (qx F415) all0)
     have F439 := qk (qk ((((((qk (((((P_S_SF.ext E379).ext E380).wr W382).wr W384).wr W386) Kq394 (allS (qx F387) all0)).ext E406).ext E407).wr W409).wr W411).wr W413) Kq414 (allS (qa V413) all0)) Kq422 (allS (qx F415) all0)
     have F440 := qk F417 Kq422 (allS (qx F415) all0)
     have F441 := qk F418 Kq422 (allS (qx F415) all0)
     have F442 := qk F419 Kq422 (allS (qx F415) all0)
     have F443 := qk (qk ((((((qk (((((P_S_US.ext E379).ext E380).wr W382).wr W384).wr W386) Kq394 (allS (qx F387) all0)).ext E406).ext E407).wr W409).wr W411).wr W413) Kq414 (allS (qa V413) all0)) Kq422 (allS (qx F415) all0)
     have F444 := qk (qk ((((((qk (((((P_S_SS.ext E379).ext E380).wr W382).wr W384).wr W386) Kq394 (allS (qx F387) all0)).ext E406).ext E407).wr W409).wr W411).wr W413) Kq414 (allS (qa V413) all0)) Kq422 (allS (qx F415) all0)
     have F445 := (ThS.keep Kq422 (nsS (qx F415) ns0) (ThS.keep Kq414 (nsS (qa V413) ns0) ((((((ThS.keep Kq394 (nsS (qx F387) ns0) (((((P_T.ext E379).ext E380).wr W382).wr W384).wr W386)).ext E406).ext E407).wr W409).wr W411).wr W413)))
     obtain ⟨_, _, ⟨T446, L446, k446, n446⟩, -, X446', hSq446, hgr446, ⟨Lc446, hQ446, l446, y446, z446, R446⟩, st446⟩ := callSS X422 hx (y := (⟨"com/example/model_check_sql/modelchecksql/model/ModelReading", "noState", "(Ljava/lang/String;)Lcom/example/model_check_sql/modelchecksql/model/ModelFormatException;"⟩ : MethodName)) hown (mvT hZ (hwd 9 rfl)) (mvT hZ (hwd 10 rfl)) (mvT hZ (hwd 11 rfl)) (mvT hZ (hwd 12 rfl)) (by decide) (backOfSKH (W := 0) (rmnoU l Z A0 hw [] b395 b396 (6 : Int32) b397 f_CS f_SF f_US f_SS b379 T422.heap n0 Z422 F434 F435 F436 F437 F438 hn_CS F439 hr_f_SF F440 F441 F442 F443 F444 hr_f_SS F445 (show ¬ ((0 : Int32) < (-13 : Int32)) by decide) (show ¬ (6 : Int32) < 0 by decide) (show 0 + 6 ≤ 6 by decide) (show 0 + 6 ≤ 32 by decide) (show (0 : Int32) < (32 : Int32) by decide) (show ¬ ((64 : Int32) < (36 : Int32)) by decide) (show (0 : Int32) < (96 : Int32) by decide) (show ¬ ((2147483639 : Int32) < (96 : Int32)) by decide) (show ¬ ((96 : Int32) = (2147483647 : Int32)) by decide) (show ¬ ((96 : Int32) = (32 : Int32)) by decide) (show ¬ ((96 : Int32) < (0 : Int32)) by decide) (show 96 ≤ 96 by decide) (show ¬ ((96 : Int32) < (32 : Int32)) by decide) (show 0 + 32 ≤ 96 by decide) (show 0 ≤ ((3 : Int32)).toInt ∧ 0 ≤ ((45 : Int32)).toInt ∧ ((3 : Int32)).toInt + ((45 : Int32)).toInt ≤ 48 ∧ 2 * (((3 : Int32)).toInt + ((45 : Int32)).toInt) ≤ ((96 : Int32)).toInt by decide) (show ¬ ((63 : Int32) < (0 : Int32)) by decide) (show ¬ ((45 : Int32) < (45 : Int32)) by decide) (show (96 : Int32) = (96 : Int32) by decide) hl0) hZ (hwd 12 rfl) (hwd 11 rfl) (by decide) (by decide) hEL CR422.1 (hK.1.alikeC hS.1.alike) (hK.2.alikeC hS.1.alike)) (g := (mkF m 976 #[vI p0, vI p1, vI p2, vI p3, vI v1, vI v2, vI v3, vI v4, vR b379, vR b406, .unset, .unset] [(.ref b379)])) rfl (by rw [hml]; rfl) (argsL := [(.ref b379)]) (rest := []) (lenOf pd_9 rfl) rfl (by show 2 * 0 + _ ≤ _; exact Nat.le_of_eq rfl) (hb hby at_976) (fun _ _ => ⟨rfl, rfl, (by decide : 8 + 10 ≤ _), (by decide : 347 + 3254 ≤ _)⟩)
     dsimp only [Pt.U, Pt.locs, Pt.cells, Pt.slots] at X446' l446 y446 z446 st446 hQ446 hSq446 hgr446 R446
     subst l446 y446 z446
     obtain ⟨X446, hS, hZ, hown⟩ := rebS hS hk422 X446' hSq446 hgr446 hZ hown
     obtain ⟨kc446, hkc446⟩ : ∃ z, z = T446.heap.size := ⟨_, rfl⟩
     rw [← hkc446] at hS
     have hk446 : kc446 ≤ T446.heap.size := Nat.le_of_eq hkc446
     have CR446 : CHr Z consts_1 s.vm h0 T446.vm T446.heap := CR422.trans R446
     obtain ⟨b447, b448, b449, b450, b451, rfl, Nq446, Kq446, hp452, hp453, hp454, hp455, hp456, hp457, hp458, hp459, hp460, F461, F462, F463, F464, F465, F466, F467, hp468⟩ := hQ446
     have N446 := Fr.app N422 Nq446
     have K446 : Keep h0 T446.heap [] := K422.trans Kq446 (all0)
     have Z446 := ql Z422 Kq446.1
     have sz_b447 := ql K422.1 hp453
     have sz_b448 := ql K422.1 hp455
     have sz_b449 := ql K422.1 hp457
     refine qb (fun _ k => st446.trans k) ?_
     show qG p e below _ (T446.setTop (mkF m 979 #[vI p0, vI p1, vI p2, vI p3, vI v1, vI v2, vI v3, vI v4, vR b379, vR b406, .unset, .unset] [(.ref b447)]))
     refine qb (fun _ k => XS.astore X446.here hx rfl (hb hby at_979) rfl rfl (l' := #[vI p0, vI p1, vI p2, vI p3, vI v1, vI v2, vI v3, vI v4, vR b379, vR b406, vR b447, .unset]) rfl k) ?_
     show qG p e below _ (T446.setTop (mkF m 981 #[vI p0, vI p1, vI p2, vI p3, vI v1, vI v2, vI v3, vI v4, vR b379, vR b406, vR b447, .unset] []))
     refine qb (fun _ k => XS.aload X446.here hx rfl (hb hby at_981) rfl rfl k) ?_
     refine qb (fun _ k => XS.ifnonnullYes X446.here hx rfl (pc0 := 983) (pc' := 988) rfl (hb hby at_983) rfl (by decide) (by decide) k) ?_
     show qG p e below _ (T446.setTop (mkF m 988 #[vI p0, vI p1, vI p2, vI p3, vI v1, vI v2, vI v3, vI v4, vR b379, vR b406, vR b447, .unset] []))
     refine qb (fun _ k => XS.aload X446.here hx rfl (hb hby at_988) rfl rfl k) ?_
     obtain ⟨cq469, kq469, qq469a, qq469b, qq469c⟩ := isOf hZ rfl F461
     obtain ⟨_, _, ⟨T469, L469, k469, n469⟩, -, X469, ⟨Lc469, hQ469, l469, y469, z469⟩, st469⟩ := X446.virtualBackUp hx (x := (⟨"com/example/model_check_sql/modelchecksql/model/ModelFormatException", "getMessage", "()Ljava/lang/String;"⟩ : MethodName)) (y := (⟨"java/lang/Throwable", "getMessage", "()Ljava/lang/String;"⟩ : MethodName)) (owner := "java/lang/Throwable") hown (mvT hZ (hwd 217 rfl)) (mvT hZ (hwd 218 rfl)) (mvT hZ (hwd 219 rfl)) (by decide) (mvT hZ (hwd 221 rfl)) (mvT hZ (hwd 220 rfl)) (backOf (W := 0) (rmgetm l Z A0 hw [] b447 b448 T446.heap n0 Z446 F462) hZ (hwd 222 rfl) (hwd 178 rfl) (by decide) (by decide)) qq469a qq469c (g := (mkF m 990 #[vI p0, vI p1, vI p2, vI p3, vI v1, vI v2, vI v3, vI v4, vR b379, vR b406, vR b447, .unset] [(.ref b447)])) rfl (by rw [hml]; rfl) (Steps.refl _) (argsL := []) (rest := []) (lenOf pd_110 rfl) rfl (by show 2 * 0 + _ ≤ _; exact Nat.le_of_eq rfl) (hb hby at_990) (fun _ _ => ⟨rfl, rfl, (by decide : 18 + 0 ≤ _), (by decide : 3601 + 0 ≤ _)⟩)
     dsimp only [Pt.U, Pt.locs, Pt.cells, Pt.slots] at X469 l469 y469 z469 st469 hQ469
     subst l469 y469 z469
     obtain ⟨rfl, Nq469, eq469⟩ := hQ469
     have N469 := Fr.app N446 Nq469
     refine qb (fun _ k => st469.trans k) ?_
     show qG p e below _ (T469.setTop (mkF m 993 #[vI p0, vI p1, vI p2, vI p3, vI v1, vI v2, vI v3, vI v4, vR b379, vR b406, vR b447, .unset] [(.ref b448)]))
     refine qb (fun _ k => XS.astore X469.here hx rfl (hb hby at_993) rfl rfl (l' := #[vI p0, vI p1, vI p2, vI p3, vI v1, vI v2, vI v3, vI v4, vR b379, vR b406, vR b447, vR b448]) rfl k) ?_
     show qG p e below _ (T469.setTop (mkF m 995 #[vI p0, vI p1, vI p2, vI p3, vI v1, vI v2, vI v3, vI v4, vR b379, vR b406, vR b447, vR b448] []))
     refine qb (fun _ k => XS.aload X469.here hx rfl (hb hby at_995) rfl rfl k) ?_
     refine qb (fun _ k => XS.ifnullNo X469.here hx rfl (hb hby at_997) rfl k) ?_
     show qG p e below _ (T469.setTop (mkF m 1000 #[vI p0, vI p1, vI p2, vI p3, vI v1, vI v2, vI v3, vI v4, vR b379, vR b406, vR b447, vR b448] []))
     refine qb (fun _ k => XS.aload X469.here hx rfl (hb hby at_1000) rfl rfl k) ?_
     refine qb (fun _ k => XS.aload X469.here hx rfl (hb hby at_1002) rfl rfl k) ?_
     have F470 := (F428.keep Kq446)
     have F471 := (F429.keep Kq446 nin0)
     have F472 := (F430.keep Kq446 nin0)
     have F473 := (F432.keep Kq446 nin0)
     have F474 := qk F438 Kq446 all0
     obtain ⟨_, T475, Lc475, X475, hQ475, st475⟩ := own_cV X469 hx hZ hown hml (rmeqU l Z A0 hw [] b449 b450 (96 : Int32) b451 b423 b424 b425 f_CS b448 b406 T446.heap n0 Z446 F463 F464 F465 F466 F470 F471 F472 F473 F474 hn_CS (ob_0_59 f_CS f_SF f_SS p0 p1 p2 p3 v1 v2 v3 v4 b397 b425 b451 hn_CS hr_f_SF hr_f_SS hv1 hv2 hv3 hv4 c5 c45 c200 hLU378 hp405 hp433 hp468) (qm F432.lt hp457)) (hwd 223 rfl) (hwd 225 rfl) (hwd 1 rfl) (hwd 227 rfl) (by decide) pd_223 eq469 (hwd 224 rfl) (hwd 226 rfl) F463 (g := (mkF m 1004 #[vI p0, vI p1, vI p2, vI p3, vI v1, vI v2, vI v3, vI v4, vR b379, vR b406, vR b447, vR b448] [(.ref b406), (.ref b448)])) (rest := []) rfl rfl rfl rfl (hb hby at_1004) rfl
     obtain ⟨rfl, Nq475, Kq475, hp476⟩ := hQ475
     have N475 := Fr.app N469 Nq475
     have R475 : CHr Z consts_1 T446.vm T446.heap T446.vm T475.heap := CHr.keep Kq475 (all0) CR446.1
     have CR475 : CHr Z consts_1 s.vm h0 T446.vm T475.heap := CR446.trans R475
     have hk475 : kc446 ≤ T475.heap.size := ql hk446 Kq475.1
     have K475 : Keep h0 T475.heap [] := K446.trans Kq475 (all0)
     have Z475 := ql Z446 Kq475.1
     refine qb st475 ?_
     show qG p e below _ (T475.setTop (mkF m 1007 #[vI p0, vI p1, vI p2, vI p3, vI v1, vI v2, vI v3, vI v4, vR b379, vR b406, vR b447, vR b448] [(.int 1)]))
     refine qb (fun _ k => XS.ifNo X475.here hx rfl (hb hby at_1007) rfl ((if0 _ _).trans (feq (by decide : ¬ ((1 : Int32) = (0 : Int32)))).1) k) ?_
     show qG p e below _ (T475.setTop (mkF m 1010 #[vI p0, vI p1, vI p2, vI p3, vI v1, vI v2, vI v3, vI v4, vR b379, vR b406, vR b447, vR b448] []))
     refine qb (fun _ k => XS.iconst X475.here hx rfl (hb hby at_1010) k) ?_
     refine qb (fun _ k => XS.goto X475.here hx rfl (pc0 := 1011) (pc' := 1015) rfl (hb hby at_1011) (by decide) (by decide) k) ?_
     show qG p e below _ (T475.setTop (mkF m 1015 #[vI p0, vI p1, vI p2, vI p3, vI v1, vI v2, vI v3, vI v4, vR b379, vR b406, vR b447, vR b448] [(.int 1)]))
     exact own_retNW X475 hx hS hk475 hZ hEL hh CR475 (t := .boolean) Bd.returns (by simp) (hb hby at_1015) hlk rfl ⟨rfl, N475⟩ (by decide) (by decide)
    ·skip
     show qG p e below _ (s₁.setTop (mkF m 652 #[vI p0, vI p1, vI p2, vI p3, vI v1, vI v2, vI v3, vI v4, .unset, .unset, .unset, .unset] []))
     obtain ⟨T477, h477, X477, e477, E477, A477, D477, -, st477⟩ := newO X0 hx hZ hown (hwd 233 rfl) (hwd 2 rfl) (hwd 1 rfl) e0 (g := (mkF m 652 #[vI p0, vI p1, vI p2, vI p3, vI v1, vI v2, vI v3, vI v4, .unset, .unset, .unset, .unset] [])) rfl (hb hby at_652) (by decide) (by decide)
     obtain ⟨b477, g477⟩ : ∃ z, z = h0.size := ⟨_, rfl⟩
     have ge_b477 : n0 ≤ b477 := ql Z0 (Nat.le_of_eq g477.symm)
     have sz_b477 := ql (Keep.refl h0 []).1 (Nat.le_of_eq g477.symm)
     have R477 : CHr Z consts_1 s.vm h0 s.vm h477 := CHr.ext E477 CR0.1
     have CR477 : CHr Z consts_1 s.vm h0 s.vm h477 := CR0.trans R477
     have hk477 : kc0 ≤ h477.size := ql hk0 E477.1
     have S_b477 : Safe Z consts_1 s.vm h477 b477 := Safe.ext E477 CR0.1 (Safe.new (Nat.le_of_eq g477.symm))
     have K477 : Keep h0 h477 [] := (Keep.refl h0 []).ext E477
     have Z477 := ql Z0 E477.1
     rw [← g477] at A477 D477 st477
     have lt_b477 := A477.lt
     have F_value_b477 : Fld Z h477 b477 cS "value" "[B" .null := D477 (Or.inr (hwd 4 rfl)) (ty := (.array .byte)) (by decide)
     have F_coder_b477 : Fld Z h477 b477 cS "coder" "B" (.int 0) := D477 (Or.inr (hwd 5 rfl)) (ty := .byte) (by decide)
     refine qb st477 ?_
     show qG p e below _ (T477.setTop (mkF m 655 #[vI p0, vI p1, vI p2, vI p3, vI v1, vI v2, vI v3, vI v4, .unset, .unset, .unset, .unset] [(.ref b477)]))
     refine qb (fun _ k => XS.dup X477.here hx rfl (hb hby at_655) rfl rfl k) ?_
     refine qb (fun _ k => XS.iconst X477.here hx rfl (hb hby at_656) k) ?_
     obtain ⟨T478, h478, k478, X478, e478, E478, A478, Ax478, st478⟩ := newPE X477 hx hZ (hwd 234 rfl) e477 (g := (mkF m 657 #[vI p0, vI p1, vI p2, vI p3, vI v1, vI v2, vI v3, vI v4, .unset, .unset, .unset, .unset] [(.int 3), (.ref b477), (.ref b477)])) rfl (hb hby at_657) rfl (by decide) (cap := 3) (by decide) (by decide) (by decide) (by decide) (ad := "[C") (by decide)
     obtain ⟨b478, g478⟩ : ∃ z, z = h477.size := ⟨_, rfl⟩
     have ge_b478 : n0 ≤ b478 := ql Z477 (Nat.le_of_eq g478.symm)
     have sz_b478 := ql K477.1 (Nat.le_of_eq g478.symm)
     have R478 : CHr Z consts_1 s.vm h477 s.vm h478 := CHr.ext E478 CR477.1
     have CR478 : CHr Z consts_1 s.vm h0 s.vm h478 := CR477.trans R478
     have hk478 : kc0 ≤ h478.size := ql hk477 E478.1
     have S_b478 : Safe Z consts_1 s.vm h478 b478 := Safe.ext E478 CR477.1 (Safe.new (Nat.le_of_eq g478.symm))
     have K478 : Keep h0 h478 [] := K477.ext E478
     have Z478 := ql Z477 E478.1
     rw [← g478] at A478 Ax478 st478
     have V478 : qA Z h478 b478 k478 .char (3 : Int32) (fun i => .int ((fun _ => (0 : Int32)) i)) := own_arfNew A478 (by decide)
     refine qb st478 ?_
     show qG p e below _ (T478.setTop (mkF m 659 #[vI p0, vI p1, vI p2, vI p3, vI v1, vI v2, vI v3, vI v4, .unset, .unset, .unset, .unset] [(.ref b478), (.ref b477), (.ref b477)]))
     refine qb (fun _ k => XS.dup X478.here hx rfl (hb hby at_659) rfl rfl k) ?_
     refine qb (fun _ k => XS.iconst X478.here hx rfl (hb hby at_660) k) ?_
     refine qb (fun _ k => XS.iload X478.here hx rfl (hb hby at_661) rfl k) ?_
     obtain ⟨cl479, Ar479, qq479, S479, M479, H479, G479⟩ := id V478
     have hin479 : ¬ ((0 : Int32) < 0 ∨ cl479.slots.size ≤ ((0 : Int32)).toNatClampNeg) := inb_of S479 ⟨by decide, by decide⟩
     obtain ⟨T480, h480, X480, e480, W480, st480⟩ := stC X478 hx hZ e478 Ar479 (j := (0 : Int32)) hin479 (g := (mkF m 663 #[vI p0, vI p1, vI p2, vI p3, vI v1, vI v2, vI v3, vI v4, .unset, .unset, .unset, .unset] [(.int v2), (.int 0), (.ref b478), (.ref b478), (.ref b477), (.ref b477)])) rfl rfl (hb hby at_663)
     have V480 : qA Z h480 b478 k478 .char (3 : Int32) (fun i => .int ((qu (fun _ => (0 : Int32)) 0 (nar .char v2)) i)) := own_arfSetI Ar479 qq479 S479 M479 H479 G479 (fits_nar_char _) W480
     have R480 : CHr Z consts_1 s.vm h478 s.vm h480 := CHr.wr W480 (own_arfSafe V478 hZ.alike (by decide)) CR478.1
     have CR480 : CHr Z consts_1 s.vm h0 s.vm h480 := CR478.trans R480
     have hk480 : kc0 ≤ h480.size := ql hk478 (Keep.of_wr W480).1
     have K480 : Keep h0 h480 [] := K478.wr W480 (Or.inr sz_b478)
     have Z480 := ql Z478 (Keep.of_wr W480).1
     have N480 := Fr.snoc X480 N0 ge_b478
     refine qb st480 ?_
     refine qb (fun _ k => XS.dup X480.here hx rfl (hb hby at_664) rfl rfl k) ?_
     refine qb (fun _ k => XS.iconst X480.here hx rfl (hb hby at_665) k) ?_
     refine qb (fun _ k => XS.iload X480.here hx rfl (hb hby at_666) rfl k) ?_
     obtain ⟨cl481, Ar481, qq481, S481, M481, H481, G481⟩ := id V480
     have hin481 : ¬ ((1 : Int32) < 0 ∨ cl481.slots.size ≤ ((1 : Int32)).toNatClampNeg) := inb_of S481 ⟨by decide, by decide⟩
     obtain ⟨T482, h482, X482, e482, W482, st482⟩ := stC X480 hx hZ e480 Ar481 (j := (1 : Int32)) hin481 (g := (mkF m 668 #[vI p0, vI p1, vI p2, vI p3, vI v1, vI v2, vI v3, vI v4, .unset, .unset, .unset, .unset] [(.int v3), (.int 1), (.ref b478), (.ref b478), (.ref b477), (.ref b477)])) rfl rfl (hb hby at_668)
     have V482 : qA Z h482 b478 k478 .char (3 : Int32) (fun i => .int ((qu (qu (fun _ => (0 : Int32)) 0 (nar .char v2)) 1 (nar .char v3)) i)) := own_arfSetI Ar481 qq481 S481 M481 H481 G481 (fits_nar_char _) W482
     have R482 : CHr Z consts_1 s.vm h480 s.vm h482 := CHr.wr W482 (own_arfSafe V480 hZ.alike (by decide)) CR480.1
     have CR482 : CHr Z consts_1 s.vm h0 s.vm h482 := CR480.trans R482
     have hk482 : kc0 ≤ h482.size := ql hk480 (Keep.of_wr W482).1
     have K482 : Keep h0 h482 [] := K480.wr W482 (Or.inr sz_b478)
     have Z482 := ql Z480 (Keep.of_wr W482).1
     have N482 := Fr.snoc X482 N480 ge_b478
     refine qb st482 ?_
     refine qb (fun _ k => XS.dup X482.here hx rfl (hb hby at_669) rfl rfl k) ?_
     refine qb (fun _ k => XS.iconst X482.here hx rfl (hb hby at_670) k) ?_
     refine qb (fun _ k => XS.iload X482.here hx rfl (hb hby at_671) rfl k) ?_
     obtain ⟨cl483, Ar483, qq483, S483, M483, H483, G483⟩ := id V482
     have hin483 : ¬ ((2 : Int32) < 0 ∨ cl483.slots.size ≤ ((2 : Int32)).toNatClampNeg) := inb_of S483 ⟨by decide, by decide⟩
     obtain ⟨T484, h484, X484, e484, W484, st484⟩ := stC X482 hx hZ e482 Ar483 (j := (2 : Int32)) hin483 (g := (mkF m 673 #[vI p0, vI p1, vI p2, vI p3, vI v1, vI v2, vI v3, vI v4, .unset, .unset, .unset, .unset] [(.int v4), (.int 2), (.ref b478), (.ref b478), (.ref b477), (.ref b477)])) rfl rfl (hb hby at_673)
     have V484 : qA Z h484 b478 k478 .char (3 : Int32) (fun i => .int ((qu (qu (qu (fun _ => (0 : Int32)) 0 (nar .char v2)) 1 (nar .char v3)) 2 (nar .char v4)) i)) := own_arfSetI Ar483 qq483 S483 M483 H483 G483 (fits_nar_char _) W484
     have R484 : CHr Z consts_1 s.vm h482 s.vm h484 := CHr.wr W484 (own_arfSafe V482 hZ.alike (by decide)) CR482.1
     have CR484 : CHr Z consts_1 s.vm h0 s.vm h484 := CR482.trans R484
     have hk484 : kc0 ≤ h484.size := ql hk482 (Keep.of_wr W484).1
     have K484 : Keep h0 h484 [] := K482.wr W484 (Or.inr sz_b478)
     have Z484 := ql Z482 (Keep.of_wr W484).1
     have N484 := Fr.snoc X484 N482 ge_b478
     refine qb st484 ?_
     have F485 := ((((A477.ext E478).wr W480).wr W482).wr W484)
     have F486 := (((((P_S_CS.ext E477).ext E478).wr W480).wr W482).wr W484)
     have F487 := ((((F_coder_b477.ext E478).other W480 (Or.inl (qn A477.lt (Nat.le_of_eq g478.symm)))).other W482 (Or.inl (qn A477.lt (Nat.le_of_eq g478.symm)))).other W484 (Or.inl (qn A477.lt (Nat.le_of_eq g478.symm))))
     have F488 := ((((F_value_b477.ext E478).other W480 (Or.inl (qn A477.lt (Nat.le_of_eq g478.symm)))).other W482 (Or.inl (qn A477.lt (Nat.le_of_eq g478.symm)))).other W484 (Or.inl (qn A477.lt (Nat.le_of_eq g478.symm))))
     obtain ⟨_, T489, Lc489, X489, hQ489, st489⟩ := own_cI X484 hx hZ hown hml (rmsiL l Z A0 hw [] k478 (3 : Int32) (qu (qu (qu (fun _ => (0 : Int32)) 0 (nar .char v2)) 1 (nar .char v3)) 2 (nar .char v4)) f_CS b477 b478 (0 : Int32) (.null) h484 n0 Z484 F485 V484 F486 hn_CS (show 0 ≤ ((3 : Int32)).toInt ∧ ((3 : Int32)).toInt ≤ 48 by decide) (ob_0_60 f_CS f_SF f_SS p0 p1 p2 p3 v1 v2 v3 v4 hn_CS hr_f_SF hr_f_SS hv1 hv2 hv3 hv4 c5 c45 c200 hLU378) F487 F488 (show ¬ ((3 : Int32) = (0 : Int32)) by decide) (show ¬ ((3 : Int32) < (0 : Int32)) by decide) (show 3 ≤ 48 by decide) ge_b477) (hwd 235 rfl) (hwd 236 rfl) (hwd 1 rfl) (hwd 237 rfl) (by decide) pd_235 e484 rfl (g := (mkF m 674 #[vI p0, vI p1, vI p2, vI p3, vI v1, vI v2, vI v3, vI v4, .unset, .unset, .unset, .unset] [(.ref b478), (.ref b477), (.ref b477)])) (rest := [(.ref b477)]) rfl rfl rfl rfl (hb hby at_674) rfl
     obtain ⟨b490, b491, b492, rfl, Nq489, Kq489, hp493, hp494, F495, F496, F497, F498, F499, hp500⟩ := hQ489
     have N489 := Fr.app N484 Nq489
     have R489 : CHr Z consts_1 s.vm h484 s.vm T489.heap := CHr.keep Kq489 ((allS (CHr.safe (R478.trans (R480.trans (R482.trans R484))) lt_b477 S_b477) all0)) CR484.1
     have CR489 : CHr Z consts_1 s.vm h0 s.vm T489.heap := CR484.trans R489
     have hk489 : kc0 ≤ T489.heap.size := ql hk484 Kq489.1
     have K489 : Keep h0 T489.heap [] := K484.trans Kq489 ((allS (Or.inr sz_b477) all0))
     have Z489 := ql Z484 Kq489.1
     have sz_b490 := ql K484.1 hp494
     have S_b490 : Safe Z consts_1 s.vm T489.heap b490 := Safe.keep Kq489 ((allS (CHr.safe (R478.trans (R480.trans (R482.trans R484))) lt_b477 S_b477) all0)) CR484.1 (Safe.new hp494)
     have lt_b490 := F498.lt
     refine qb st489 ?_
     show qG p e below _ (T489.setTop (mkF m 677 #[vI p0, vI p1, vI p2, vI p3, vI v1, vI v2, vI v3, vI v4, .unset, .unset, .unset, .unset] [(.ref b477)]))
     refine qb (fun _ k => XS.astore X489.here hx rfl (hb hby at_677) rfl rfl (l' := #[vI p0, vI p1, vI p2, vI p3, vI v1, vI v2, vI v3, vI v4, vR b477, .unset, .unset, .unset]) rfl k) ?_
     show qG p e below _ (T489.setTop (mkF m 679 #[vI p0, vI p1, vI p2, vI p3, vI v1, vI v2, vI v3, vI v4, vR b477, .unset, .unset, .unset] []))
     obtain ⟨T501, h501, X501, e501, E501, A501, D501, -, st501⟩ := newO X489 hx hZ hown (hwd 233 rfl) (hwd 2 rfl) (hwd 1 rfl) rfl (g := (mkF m 679 #[vI p0, vI p1, vI p2, vI p3, vI v1, vI v2, vI v3, vI v4, vR b477, .unset, .unset, .unset] [])) rfl (hb hby at_679) (by decide) (by decide)
     obtain ⟨b501, g501⟩ : ∃ z, z = T489.heap.size := ⟨_, rfl⟩
     have ge_b501 : n0 ≤ b501 := ql Z489 (Nat.le_of_eq g501.symm)
     have sz_b501 := ql K489.1 (Nat.le_of_eq g501.symm)
     have R501 : CHr Z consts_1 s.vm T489.heap s.vm h501 := CHr.ext E501 CR489.1
     have CR501 : CHr Z consts_1 s.vm h0 s.vm h501 := CR489.trans R501
     have hk501 : kc0 ≤ h501.size := ql hk489 E501.1
     have S_b501 : Safe Z consts_1 s.vm h501 b501 := Safe.ext E501 CR489.1 (Safe.new (Nat.le_of_eq g501.symm))
     have K501 : Keep h0 h501 [] := K489.ext E501
     have Z501 := ql Z489 E501.1
     rw [← g501] at A501 D501 st501
     have lt_b501 := A501.lt
     have F_value_b501 : Fld Z h501 b501 cS "value" "[B" .null := D501 (Or.inr (hwd 4 rfl)) (ty := (.array .byte)) (by decide)
     have F_coder_b501 : Fld Z h501 b501 cS "coder" "B" (.int 0) := D501 (Or.inr (hwd 5 rfl)) (ty := .byte) (by decide)
     refine qb st501 ?_
     show qG p e below _ (T501.setTop (mkF m 682 #[vI p0, vI p1, vI p2, vI p3, vI v1, vI v2, vI v3, vI v4, vR b477, .unset, .unset, .unset] [(.ref b501)]))
     refine qb (fun _ k => XS.dup X501.here hx rfl (hb hby at_682) rfl rfl k) ?_
     refine qb (fun _ k => XS.bipush X501.here hx rfl (hb hby at_683) k) ?_
     obtain ⟨T502, h502, k502, X502, e502, E502, A502, Ax502, st502⟩ := newPE X501 hx hZ (hwd 234 rfl) e501 (g := (mkF m 685 #[vI p0, vI p1, vI p2, vI p3, vI v1, vI v2, vI v3, vI v4, vR b477, .unset, .unset, .unset] [(.int 48), (.ref b501), (.ref b501)])) rfl (hb hby at_685) rfl (by decide) (cap := 48) (by decide) (by decide) (by decide) (by decide) (ad := "[C") (by decide)
     obtain ⟨b502, g502⟩ : ∃ z, z = h501.size := ⟨_, rfl⟩
     have ge_b502 : n0 ≤ b502 := ql Z501 (Nat.le_of_eq g502.symm)
     have sz_b502 := ql K501.1 (Nat.le_of_eq g502.symm)
     have R502 : CHr Z consts_1 s.vm h501 s.vm h502 := CHr.ext E502 CR501.1
     have CR502 : CHr Z consts_1 s.vm h0 s.vm h502 := CR501.trans R502
     have hk502 : kc0 ≤ h502.size := ql hk501 E502.1
     have S_b502 : Safe Z consts_1 s.vm h502 b502 := Safe.ext E502 CR501.1 (Safe.new (Nat.le_of_eq g502.symm))
     have K502 : Keep h0 h502 [] := K501.ext E502
     have Z502 := ql Z501 E502.1
     rw [← g502] at A502 Ax502 st502
     have V502 : qA Z h502 b502 k502 .char (48 : Int32) (fun i => .int ((fun _ => (0 : Int32)) i)) := own_arfNew A502 (by decide)
     refine qb st502 ?_
     show qG p e below _ (T502.setTop (mkF m 687 #[vI p0, vI p1, vI p2, vI p3, vI v1, vI v2, vI v3, vI v4, vR b477, .unset, .unset, .unset] [(.ref b502), (.ref b501), (.ref b501)]))
     refine qb (fun _ k => XS.dup X502.here hx rfl (hb hby at_687) rfl rfl k) ?_
     refine qb (fun _ k => XS.iconst X502.here hx rfl (hb hby at_688) k) ?_
     refine qb (fun _ k => XS.iload X502.here hx rfl (hb hby at_689) rfl k) ?_
     obtain ⟨cl503, Ar503, qq503, S503, M503, H503, G503⟩ := id V502
     have hin503 : ¬ ((0 : Int32) < 0 ∨ cl503.slots.size ≤ ((0 : Int32)).toNatClampNeg) := inb_of S503 ⟨by decide, by decide⟩
     obtain ⟨T504, h504, X504, e504, W504, st504⟩ := stC X502 hx hZ e502 Ar503 (j := (0 : Int32)) hin503 (g := (mkF m 691 #[vI p0, vI p1, vI p2, vI p3, vI v1, vI v2, vI v3, vI v4, vR b477, .unset, .unset, .unset] [(.int v2), (.int 0), (.ref b502), (.ref b502), (.ref b501), (.ref b501)])) rfl rfl (hb hby at_691)
     have V504 : qA Z h504 b502 k502 .char (48 : Int32) (fun i => .int ((qu (fun _ => (0 : Int32)) 0 (nar .char v2)) i)) := own_arfSetI Ar503 qq503 S503 M503 H503 G503 (fits_nar_char _) W504
     have R504 : CHr Z consts_1 s.vm h502 s.vm h504 := CHr.wr W504 (own_arfSafe V502 hZ.alike (by decide)) CR502.1
     have CR504 : CHr Z consts_1 s.vm h0 s.vm h504 := CR502.trans R504
     have hk504 : kc0 ≤ h504.size := ql hk502 (Keep.of_wr W504).1
     have K504 : Keep h0 h504 [] := K502.wr W504 (Or.inr sz_b502)
     have Z504 := ql Z502 (Keep.of_wr W504).1
     have N504 := Fr.snoc X504 N489 ge_b502
     refine qb st504 ?_
     refine qb (fun _ k => XS.dup X504.here hx rfl (hb hby at_692) rfl rfl k) ?_
     refine qb (fun _ k => XS.iconst X504.here hx rfl (hb hby at_693) k) ?_
     refine qb (fun _ k => XS.iload X504.here hx rfl (hb hby at_694) rfl k) ?_
     obtain ⟨cl505, Ar505, qq505, S505, M505, H505, G505⟩ := id V504
     have hin505 : ¬ ((1 : Int32) < 0 ∨ cl505.slots.size ≤ ((1 : Int32)).toNatClampNeg) := inb_of S505 ⟨by decide, by decide⟩
     obtain ⟨T506, h506, X506, e506, W506, st506⟩ := stC X504 hx hZ e504 Ar505 (j := (1 : Int32)) hin505 (g := (mkF m 696 #[vI p0, vI p1, vI p2, vI p3, vI v1, vI v2, vI v3, vI v4, vR b477, .unset, .unset, .unset] [(.int v3), (.int 1), (.ref b502), (.ref b502), (.ref b501), (.ref b501)])) rfl rfl (hb hby at_696)
     have V506 : qA Z h506 b502 k502 .char (48 : Int32) (fun i => .int ((qu (qu (fun _ => (0 : Int32)) 0 (nar .char v2)) 1 (nar .char v3)) i)) := own_arfSetI Ar505 qq505 S505 M505 H505 G505 (fits_nar_char _) W506
     have R506 : CHr Z consts_1 s.vm h504 s.vm h506 := CHr.wr W506 (own_arfSafe V504 hZ.alike (by decide)) CR504.1
     have CR506 : CHr Z consts_1 s.vm h0 s.vm h506 := CR504.trans R506
     have hk506 : kc0 ≤ h506.size := ql hk504 (Keep.of_wr W506).1
     have K506 : Keep h0 h506 [] := K504.wr W506 (Or.inr sz_b502)
     have Z506 := ql Z504 (Keep.of_wr W506).1
     have N506 := Fr.snoc X506 N504 ge_b502
     refine qb st506 ?_
     refine qb (fun _ k => XS.dup X506.here hx rfl (hb hby at_697) rfl rfl k) ?_
     refine qb (fun _ k => XS.iconst X506.here hx rfl (hb hby at_698) k) ?_
     refine qb (fun _ k => XS.iload X506.here hx rfl (hb hby at_699) rfl k) ?_
     obtain ⟨cl507, Ar507, qq507, S507, M507, H507, G507⟩ := id V506
     have hin507 : ¬ ((2 : Int32) < 0 ∨ cl507.slots.size ≤ ((2 : Int32)).toNatClampNeg) := inb_of S507 ⟨by decide, by decide⟩
     obtain ⟨T508, h508, X508, e508, W508, st508⟩ := stC X506 hx hZ e506 Ar507 (j := (2 : Int32)) hin507 (g := (mkF m 701 #[vI p0, vI p1, vI p2, vI p3, vI v1, vI v2, vI v3, vI v4, vR b477, .unset, .unset, .unset] [(.int v4), (.int 2), (.ref b502), (.ref b502), (.ref b501), (.ref b501)])) rfl rfl (hb hby at_701)
     have V508 : qA Z h508 b502 k502 .char (48 : Int32) (fun i => .int ((qu (qu (qu (fun _ => (0 : Int32)) 0 (nar .char v2)) 1 (nar .char v3)) 2 (nar .char v4)) i)) := own_arfSetI Ar507 qq507 S507 M507 H507 G507 (fits_nar_char _) W508
     have R508 : CHr Z consts_1 s.vm h506 s.vm h508 := CHr.wr W508 (own_arfSafe V506 hZ.alike (by decide)) CR506.1
     have CR508 : CHr Z consts_1 s.vm h0 s.vm h508 := CR506.trans R508
     have hk508 : kc0 ≤ h508.size := ql hk506 (Keep.of_wr W508).1
     have K508 : Keep h0 h508 [] := K506.wr W508 (Or.inr sz_b502)
     have Z508 := ql Z506 (Keep.of_wr W508).1
     have N508 := Fr.snoc X508 N506 ge_b502
     refine qb st508 ?_
     obtain ⟨T509, h509, L509, X509, e509, N509, Kq509, V509, st509⟩ := own_fill (Ls := #[vI p0, vI p1, vI p2, vI p3, vI v1, vI v2, vI v3, vI v4, vR b477, .unset, .unset, .unset]) (rest := [(.ref b501), (.ref b501)]) hx hZ ge_b502 own_txt3 702 _ _ _ (qu (qu (qu (fun _ => (0 : Int32)) 0 (nar .char v2)) 1 (nar .char v3)) 2 (nar .char v4)) X508 e508 V508 N508 (by rw [hby]; decide +kernel)
     have R509 : CHr Z consts_1 s.vm h508 s.vm h509 := CHr.keep Kq509 (allS (own_arfSafe V508 hZ.alike (by decide)) all0) CR508.1
     have CR509 : CHr Z consts_1 s.vm h0 s.vm h509 := CR508.trans R509
     have hk509 : kc0 ≤ h509.size := ql hk508 Kq509.1
     have K509 : Keep h0 h509 [] := K508.trans Kq509 ((allS (Or.inr sz_b502) all0))
     have Z509 := ql Z508 Kq509.1
     refine qb st509 ?_
     show qG p e below _ (T509.setTop (mkF m 969 #[vI p0, vI p1, vI p2, vI p3, vI v1, vI v2, vI v3, vI v4, vR b477, .unset, .unset, .unset] [(.ref b502), (.ref b501), (.ref b501)]))
     have F510 := (((((A501.ext E502).wr W504).wr W506).wr W508).keep Kq509)
     have F511 := qk ((((((qk F486 Kq489 (allS (qx F485) all0)).ext E501).ext E502).wr W504).wr W506).wr W508) Kq509 (allS (qa V508) all0)
     have F512 := (((((F_coder_b501.ext E502).other W504 (Or.inl (qn A501.lt (Nat.le_of_eq g502.symm)))).other W506 (Or.inl (qn A501.lt (Nat.le_of_eq g502.symm)))).other W508 (Or.inl (qn A501.lt (Nat.le_of_eq g502.symm)))).keep Kq509 (ninS (qn A501.lt (Nat.le_of_eq g502.symm)) nin0))
     have F513 := (((((F_value_b501.ext E502).other W504 (Or.inl (qn A501.lt (Nat.le_of_eq g502.symm)))).other W506 (Or.inl (qn A501.lt (Nat.le_of_eq g502.symm)))).other W508 (Or.inl (qn A501.lt (Nat.le_of_eq g502.symm)))).keep Kq509 (ninS (qn A501.lt (Nat.le_of_eq g502.symm)) nin0))
     obtain ⟨_, T514, Lc514, X514, hQ514, st514⟩ := own_cI X509 hx hZ hown hml (rmsiL l Z A0 hw [] k502 (48 : Int32) (own_ff (qu (qu (qu (fun _ => (0 : Int32)) 0 (nar .char v2)) 1 (nar .char v3)) 2 (nar .char v4)) own_txt3) f_CS b501 b502 (0 : Int32) (.null) h509 n0 Z509 F510 V509 F511 hn_CS (show 0 ≤ ((48 : Int32)).toInt ∧ ((48 : Int32)).toInt ≤ 48 by decide) (ob_0_61 f_CS f_SF f_SS p0 p1 p2 p3 v1 v2 v3 v4 b492 hn_CS hr_f_SF hr_f_SS hv1 hv2 hv3 hv4 c5 c45 c200 hLU378 hp500) F512 F513 (show ¬ ((48 : Int32) = (0 : Int32)) by decide) (show ¬ ((48 : Int32) < (0 : Int32)) by decide) (show 48 ≤ 48 by decide) ge_b501) (hwd 235 rfl) (hwd 236 rfl) (hwd 1 rfl) (hwd 237 rfl) (by decide) pd_235 e509 rfl (g := (mkF m 969 #[vI p0, vI p1, vI p2, vI p3, vI v1, vI v2, vI v3, vI v4, vR b477, .unset, .unset, .unset] [(.ref b502), (.ref b501), (.ref b501)])) (rest := [(.ref b501)]) rfl rfl rfl rfl (hb hby at_969) rfl
     obtain ⟨b515, b516, b517, rfl, Nq514, Kq514, hp518, hp519, F520, F521, F522, F523, F524, hp525⟩ := hQ514
     have N514 := Fr.app N509 Nq514
     have R514 : CHr Z consts_1 s.vm h509 s.vm T514.heap := CHr.keep Kq514 ((allS (CHr.safe (R502.trans (R504.trans (R506.trans (R508.trans R509)))) lt_b501 S_b501) all0)) CR509.1
     have CR514 : CHr Z consts_1 s.vm h0 s.vm T514.heap := CR509.trans R514
     have hk514 : kc0 ≤ T514.heap.size := ql hk509 Kq514.1
     have K514 : Keep h0 T514.heap [] := K509.trans Kq514 ((allS (Or.inr sz_b501) all0))
     have Z514 := ql Z509 Kq514.1
     have sz_b515 := ql K509.1 hp519
     have S_b515 : Safe Z consts_1 s.vm T514.heap b515 := Safe.keep Kq514 ((allS (CHr.safe (R502.trans (R504.trans (R506.trans (R508.trans R509)))) lt_b501 S_b501) all0)) CR509.1 (Safe.new hp519)
     have lt_b515 := F523.lt
     refine qb st514 ?_
     show qG p e below _ (T514.setTop (mkF m 972 #[vI p0, vI p1, vI p2, vI p3, vI v1, vI v2, vI v3, vI v4, vR b477, .unset, .unset, .unset] [(.ref b501)]))
     refine qb (fun _ k => XS.astore X514.here hx rfl (hb hby at_972) rfl rfl (l' := #[vI p0, vI p1, vI p2, vI p3, vI v1, vI v2, vI v3, vI v4, vR b477, vR b501, .unset, .unset]) rfl k) ?_
     show qG p e below _ (T514.setTop (mkF m 974 #[vI p0, vI p1, vI p2, vI p3, vI v1, vI v2, vI v3, vI v4, vR b477, vR b501, .unset, .unset] []))
     refine qb (fun _ k => XS.aload X514.here hx rfl (hb hby at_974) rfl rfl k) ?_
     have F526 := (((((((F495.ext E501).ext E502).wr W504).wr W506).wr W508).keep Kq509).keep Kq514)
     have F527 := (((((((F496.ext E501).ext E502).other W504 (Or.inl (qn ((F495.ext E501)).lt (Nat.le_of_eq g502.symm)))).other W506 (Or.inl (qn ((F495.ext E501)).lt (Nat.le_of_eq g502.symm)))).other W508 (Or.inl (qn ((F495.ext E501)).lt (Nat.le_of_eq g502.symm)))).keep Kq509 (ninS (qn ((F495.ext E501)).lt (Nat.le_of_eq g502.symm)) nin0)).keep Kq514 (ninS (qn F495.lt (Nat.le_of_eq g501.symm)) nin0))
     have F528 := (((((((F497.ext E501).ext E502).other W504 (Or.inl (qn ((F495.ext E501)).lt (Nat.le_of_eq g502.symm)))).other W506 (Or.inl (qn ((F495.ext E501)).lt (Nat.le_of_eq g502.symm)))).other W508 (Or.inl (qn ((F495.ext E501)).lt (Nat.le_of_eq g502.symm)))).keep Kq509 (ninS (qn ((F495.ext E501)).lt (Nat.le_of_eq g502.symm)) nin0)).keep Kq514 (ninS (qn F495.lt (Nat.le_of_eq g501.symm)) nin0))
     have F529 := (((((((F499.ext E501).ext E502).other W504 (qn ((F499.ext E501)).lt (Nat.le_of_eq g502.symm))).other W506 (qn ((F499.ext E501)).lt (Nat.le_of_eq g502.symm))).other W508 (qn ((F499.ext E501)).lt (Nat.le_of_eq g502.symm))).keep Kq509 (ninS (qn ((F499.ext E501)).lt (Nat.le_of_eq g502.symm)) nin0)).keep Kq514 (ninS (qn F499.lt (Nat.le_of_eq g501.symm)) nin0))
     have F530 := qk F511 Kq514 (allS (qx F510) all0)
     have F531 := qk (qk ((((((qk (((((P_S_US.ext E477).ext E478).wr W480).wr W482).wr W484) Kq489 (allS (qx F485) all0)).ext E501).ext E502).wr W504).wr W506).wr W508) Kq509 (allS (qa V508) all0)) Kq514 (allS (qx F510) all0)
     have F532 := qk (qk ((((((qk (((((P_S_SS.ext E477).ext E478).wr W480).wr W482).wr W484) Kq489 (allS (qx F485) all0)).ext E501).ext E502).wr W504).wr W506).wr W508) Kq509 (allS (qa V508) all0)) Kq514 (allS (qx F510) all0)
     have F533 := (ThS.keep Kq514 (nsS (qx F510) ns0) (ThS.keep Kq509 (nsS (qa V508) ns0) ((((((ThS.keep Kq489 (nsS (qx F485) ns0) (((((P_T.ext E477).ext E478).wr W480).wr W482).wr W484)).ext E501).ext E502).wr W504).wr W506).wr W508)))
     obtain ⟨_, _, ⟨T534, L534, k534, n534⟩, -, X534', hSq534, hgr534, ⟨Lc534, hQ534, l534, y534, z534, R534⟩, st534⟩ := callSS X514 hx (y := (⟨"com/example/model_check_sql/modelchecksql/model/ModelReading", "noState", "(Ljava/lang/String;)Lcom/example/model_check_sql/modelchecksql/model/ModelFormatException;"⟩ : MethodName)) hown (mvT hZ (hwd 9 rfl)) (mvT hZ (hwd 10 rfl)) (mvT hZ (hwd 11 rfl)) (mvT hZ (hwd 12 rfl)) (by decide) (backOfSKH (W := 0) (rmnoL l Z A0 hw [] b490 b491 (3 : Int32) b492 f_CS f_US f_SS b477 T514.heap n0 Z514 F526 F527 F528 F529 F530 hn_CS F531 F532 hr_f_SS F533 (show ¬ ((0 : Int32) < (-13 : Int32)) by decide) (show ¬ (3 : Int32) < 0 by decide) (show 0 + 3 ≤ 3 by decide) (show 0 + 3 ≤ 16 by decide) (show (0 : Int32) < (32 : Int32) by decide) (show ¬ ((32 : Int32) < (18 : Int32)) by decide) (show (0 : Int32) < (48 : Int32) by decide) (show ¬ ((2147483639 : Int32) < (48 : Int32)) by decide) (show ¬ ((48 : Int32) = (2147483647 : Int32)) by decide) (show ¬ ((48 : Int32) = (16 : Int32)) by decide) (show ¬ ((48 : Int32) < (0 : Int32)) by decide) (show 48 ≤ 96 by decide) (show ¬ ((48 : Int32) < (16 : Int32)) by decide) (show 0 + 16 ≤ 48 by decide) (show ¬ (3 : Int32) < 0 by decide) (show 3 + 45 ≤ 48 by decide) (show (48 : Int32) = (48 : Int32) by decide) hl0) hZ (hwd 12 rfl) (hwd 11 rfl) (by decide) (by decide) hEL CR514.1 (hK.1.alikeC hS.1.alike) (hK.2.alikeC hS.1.alike)) (g := (mkF m 976 #[vI p0, vI p1, vI p2, vI p3, vI v1, vI v2, vI v3, vI v4, vR b477, vR b501, .unset, .unset] [(.ref b477)])) rfl (by rw [hml]; rfl) (argsL := [(.ref b477)]) (rest := []) (lenOf pd_9 rfl) rfl (by show 2 * 0 + _ ≤ _; exact Nat.le_of_eq rfl) (hb hby at_976) (fun _ _ => ⟨rfl, rfl, (by decide : 6 + 9 ≤ _), (by decide : 155 + 3158 ≤ _)⟩)
     dsimp only [Pt.U, Pt.locs, Pt.cells, Pt.slots] at X534' l534 y534 z534 st534 hQ534 hSq534 hgr534 R534
     subst l534 y534 z534
     obtain ⟨X534, hS, hZ, hown⟩ := rebS hS hk514 X534' hSq534 hgr534 hZ hown
     obtain ⟨kc534, hkc534⟩ : ∃ z, z = T534.heap.size := ⟨_, rfl⟩
     rw [← hkc534] at hS
     have hk534 : kc534 ≤ T534.heap.size := Nat.le_of_eq hkc534
     have CR534 : CHr Z consts_1 s.vm h0 T534.vm T534.heap := CR514.trans R534
     obtain ⟨b535, b536, b537, b538, rfl, Nq534, Kq534, hp539, hp540, F541, F542, hp543, hp544, F545, F546, F547, hp548, hp549, F550, F551, hp552, hp553, hp554⟩ := hQ534
     have N534 := Fr.app N514 Nq534
     have K534 : Keep h0 T534.heap [] := K514.trans Kq534 (all0)
     have Z534 := ql Z514 Kq534.1
     have sz_b535 := ql K514.1 hp540
     have sz_b536 := ql K514.1 hp544
     have sz_b537 := ql K514.1 hp549
     refine qb (fun _ k => st534.trans k) ?_
     show qG p e below _ (T534.setTop (mkF m 979 #[vI p0, vI p1, vI p2, vI p3, vI v1, vI v2, vI v3, vI v4, vR b477, vR b501, .unset, .unset] [(.ref b535)]))
     refine qb (fun _ k => XS.astore X534.here hx rfl (hb hby at_979) rfl rfl (l' := #[vI p0, vI p1, vI p2, vI p3, vI v1, vI v2, vI v3, vI v4, vR b477, vR b501, vR b535, .unset]) rfl k) ?_
     show qG p e below _ (T534.setTop (mkF m 981 #[vI p0, vI p1, vI p2, vI p3, vI v1, vI v2, vI v3, vI v4, vR b477, vR b501, vR b535, .unset] []))
     refine qb (fun _ k => XS.aload X534.here hx rfl (hb hby at_981) rfl rfl k) ?_
     refine qb (fun _ k => XS.ifnonnullYes X534.here hx rfl (pc0 := 983) (pc' := 988) rfl (hb hby at_983) rfl (by decide) (by decide) k) ?_
     show qG p e below _ (T534.setTop (mkF m 988 #[vI p0, vI p1, vI p2, vI p3, vI v1, vI v2, vI v3, vI v4, vR b477, vR b501, vR b535, .unset] []))
     refine qb (fun _ k => XS.aload X534.here hx rfl (hb hby at_988) rfl rfl k) ?_
     obtain ⟨cq555, kq555, qq555a, qq555b, qq555c⟩ := isOf hZ rfl F541
     obtain ⟨_, _, ⟨T555, L555, k555, n555⟩, -, X555, ⟨Lc555, hQ555, l555, y555, z555⟩, st555⟩ := X534.virtualBackUp hx (x := (⟨"com/example/model_check_sql/modelchecksql/model/ModelFormatException", "getMessage", "()Ljava/lang/String;"⟩ : MethodName)) (y := (⟨"java/lang/Throwable", "getMessage", "()Ljava/lang/String;"⟩ : MethodName)) (owner := "java/lang/Throwable") hown (mvT hZ (hwd 217 rfl)) (mvT hZ (hwd 218 rfl)) (mvT hZ (hwd 219 rfl)) (by decide) (mvT hZ (hwd 221 rfl)) (mvT hZ (hwd 220 rfl)) (backOf (W := 0) (rmgetm l Z A0 hw [] b535 b536 T534.heap n0 Z534 F542) hZ (hwd 222 rfl) (hwd 178 rfl) (by decide) (by decide)) qq555a qq555c (g := (mkF m 990 #[vI p0, vI p1, vI p2, vI p3, vI v1, vI v2, vI v3, vI v4, vR b477, vR b501, vR b535, .unset] [(.ref b535)])) rfl (by rw [hml]; rfl) (Steps.refl _) (argsL := []) (rest := []) (lenOf pd_110 rfl) rfl (by show 2 * 0 + _ ≤ _; exact Nat.le_of_eq rfl) (hb hby at_990) (fun _ _ => ⟨rfl, rfl, (by decide : 15 + 0 ≤ _), (by decide : 3313 + 0 ≤ _)⟩)
     dsimp only [Pt.U, Pt.locs, Pt.cells, Pt.slots] at X555 l555 y555 z555 st555 hQ555
     subst l555 y555 z555
     obtain ⟨rfl, Nq555, eq555⟩ := hQ555
     have N555 := Fr.app N534 Nq555
     refine qb (fun _ k => st555.trans k) ?_
     show qG p e below _ (T555.setTop (mkF m 993 #[vI p0, vI p1, vI p2, vI p3, vI v1, vI v2, vI v3, vI v4, vR b477, vR b501, vR b535, .unset] [(.ref b536)]))
     refine qb (fun _ k => XS.astore X555.here hx rfl (hb hby at_993) rfl rfl (l' := #[vI p0, vI p1, vI p2, vI p3, vI v1, vI v2, vI v3, vI v4, vR b477, vR b501, vR b535, vR b536]) rfl k) ?_
     show qG p e below _ (T555.setTop (mkF m 995 #[vI p0, vI p1, vI p2, vI p3, vI v1, vI v2, vI v3, vI v4, vR b477, vR b501, vR b535, vR b536] []))
     refine qb (fun _ k => XS.aload X555.here hx rfl (hb hby at_995) rfl rfl k) ?_
     refine qb (fun _ k => XS.ifnullNo X555.here hx rfl (hb hby at_997) rfl k) ?_
     show qG p e below _ (T555.setTop (mkF m 1000 #[vI p0, vI p1, vI p2, vI p3, vI v1, vI v2, vI v3, vI v4, vR b477, vR b501, vR b535, vR b536] []))
     refine qb (fun _ k => XS.aload X555.here hx rfl (hb hby at_1000) rfl rfl k) ?_
     refine qb (fun _ k => XS.aload X555.here hx rfl (hb hby at_1002) rfl rfl k) ?_
     have F556 := (F520.keep Kq534)
     have F557 := (F521.keep Kq534 nin0)
     have F558 := (F522.keep Kq534 nin0)
     have F559 := (F524.keep Kq534 nin0)
     have F560 := qk F530 Kq534 all0
     obtain ⟨_, T561, Lc561, X561, hQ561, st561⟩ := own_cV X555 hx hZ hown hml (rmeqL l Z A0 hw [] b537 b538 (48 : Int32) (own_cp (own_li own_LIT) 0 (own_cp (own_cp b492 0 (fun _ => (0 : Int32)) 0 3) 0 (fun _ => (0 : Int32)) 0 16) 3 45) b515 b516 b517 f_CS b536 b501 T534.heap n0 Z534 F545 F546 F547 F550 F556 F557 F558 F559 F560 hn_CS (ob_0_62 f_CS f_SF f_SS p0 p1 p2 p3 v1 v2 v3 v4 b492 b517 hn_CS hr_f_SF hr_f_SS hv1 hv2 hv3 hv4 c5 c45 c200 hLU378 hp500 hp525) (qm F524.lt hp549)) (hwd 223 rfl) (hwd 225 rfl) (hwd 1 rfl) (hwd 227 rfl) (by decide) pd_223 eq555 (hwd 224 rfl) (hwd 226 rfl) F545 (g := (mkF m 1004 #[vI p0, vI p1, vI p2, vI p3, vI v1, vI v2, vI v3, vI v4, vR b477, vR b501, vR b535, vR b536] [(.ref b501), (.ref b536)])) (rest := []) rfl rfl rfl rfl (hb hby at_1004) rfl
     obtain ⟨rfl, Nq561, Kq561, hp562⟩ := hQ561
     have N561 := Fr.app N555 Nq561
     have R561 : CHr Z consts_1 T534.vm T534.heap T534.vm T561.heap := CHr.keep Kq561 (all0) CR534.1
     have CR561 : CHr Z consts_1 s.vm h0 T534.vm T561.heap := CR534.trans R561
     have hk561 : kc534 ≤ T561.heap.size := ql hk534 Kq561.1
     have K561 : Keep h0 T561.heap [] := K534.trans Kq561 (all0)
     have Z561 := ql Z534 Kq561.1
     refine qb st561 ?_
     show qG p e below _ (T561.setTop (mkF m 1007 #[vI p0, vI p1, vI p2, vI p3, vI v1, vI v2, vI v3, vI v4, vR b477, vR b501, vR b535, vR b536] [(.int 1)]))
     refine qb (fun _ k => XS.ifNo X561.here hx rfl (hb hby at_1007) rfl ((if0 _ _).trans (feq (by decide : ¬ ((1 : Int32) = (0 : Int32)))).1) k) ?_
     show qG p e below _ (T561.setTop (mkF m 1010 #[vI p0, vI p1, vI p2, vI p3, vI v1, vI v2, vI v3, vI v4, vR b477, vR b501, vR b535, vR b536] []))
     refine qb (fun _ k => XS.iconst X561.here hx rfl (hb hby at_1010) k) ?_
     refine qb (fun _ k => XS.goto X561.here hx rfl (pc0 := 1011) (pc' := 1015) rfl (hb hby at_1011) (by decide) (by decide) k) ?_
     show qG p e below _ (T561.setTop (mkF m 1015 #[vI p0, vI p1, vI p2, vI p3, vI v1, vI v2, vI v3, vI v4, vR b477, vR b501, vR b535, vR b536] [(.int 1)]))
     exact own_retNW X561 hx hS hk561 hZ hEL hh CR561 (t := .boolean) Bd.returns (by simp) (hb hby at_1015) hlk rfl ⟨rfl, N561⟩ (by decide) (by decide)
set_option maxRecDepth 65536 in
set_option maxHeartbeats 40000000 in
theorem comes_1 {Post : Tables → Env → Array Value → State → Outcome → State → Prop} (hpost : ∀ tb e args s v u, (limb_1_1.after args s (.returned v) u = true ∧ limb_1_2.after args s (.returned v) u = true ∧ True) → ReturnedEndW s (.returned v) u (Jvm.fieldLocs frame_1_writes args s ++ Jvm.arrayLocs frame_1_arrays args s ++ Jvm.staticLocs frame_1_statics s) 48 9600 → Post tb e args s (.returned v) u) :
    ArmFor flags0 classFile x code maxLocals ret World_1 tables_1 room_1 Calls_1 rest_1 Pre_1 Post := by
  intro l hfl _ _ p e ha hc hk s m args below hf hA hF happ hP
  obtain ⟨hcalls, hrest, hpre⟩ := hP
  obtain ⟨-, -, -, hnamed, -, -, -, hat⟩ := (Spec.applies_iff hf).mp happ
  obtain ⟨hg, hn⟩ := and_e (Cond.before_iff.mp (show (Jvm.Cond.and given_1 narrow_1).before args s = true from hpre))
  obtain ⟨g0, r0⟩ := and_e hg
  obtain ⟨ga0, r1⟩ := and_e r0
  obtain ⟨ga1, r2⟩ := and_e r1
  obtain ⟨ga2, r3⟩ := and_e r2
  obtain ⟨w0, w1, w2, w3, rfl⟩ : ∃ w0 w1 w2 w3 : Value, args = #[w0, w1, w2, w3] := by
    have hs : args.size = 4 := by simpa [Cond.value, given_1] using g0
    obtain ⟨L⟩ := args
    match L, hs with
    | [w0, w1, w2, w3], _ => exact ⟨w0, w1, w2, w3, rfl⟩
  have hw := fun d (hd : d ∈ tables_1) => atoms_spec (ws := Jvm.Cond.code x code maxLocals ret :: tables_1) hat d (List.mem_cons_of_mem _ hd)
  have hwd := fun i {d : Jvm.Cond} (h : tables_1[i]? = some d) => hw d (List.mem_of_getElem? h)
  have hfit : Fit s := fun {y c} hc i hi => by
    obtain ⟨ha, rfl⟩ := Array.getElem?_eq_some_iff.mp hc
    have q := List.all_eq_true.mp ((Array.all_eq_true_iff_forall_mem.mp hF) _ (Array.getElem_mem ha)) i (List.mem_range.mpr hi)
    simpa [Array.getElem?_eq_getElem hi] using q
  obtain ⟨i0, ei0⟩ := is_v ga0
  obtain rfl : w0 = (.int i0) := Option.some.inj ei0
  obtain ⟨i1, ei1⟩ := is_v ga1
  obtain rfl : w1 = (.int i1) := Option.some.inj ei1
  obtain ⟨i2, ei2⟩ := is_v ga2
  obtain rfl : w2 = (.int i2) := Option.some.inj ei2
  obtain ⟨i3, ei3⟩ := is_v r3
  obtain rfl : w3 = (.int i3) := Option.some.inj ei3
  obtain ⟨hsets, hown0⟩ := atoms_of _ (rest_1_c_eq ▸ (show rest_1_c.before _ s = true from hrest))
  have se0 := hsets _ (List.mem_of_getElem? (i := 0) rfl)
  have se1 := hsets _ (List.mem_of_getElem? (i := 1) rfl)
  have se2 := hsets _ (List.mem_of_getElem? (i := 2) rfl)
  have se7 := hsets _ (List.mem_of_getElem? (i := 7) rfl)
  have se8 := hsets _ (List.mem_of_getElem? (i := 8) rfl)
  have se15 := hsets _ (List.mem_of_getElem? (i := 15) rfl)
  have se17 := hsets _ (List.mem_of_getElem? (i := 17) rfl)
  have se20 := hsets _ (List.mem_of_getElem? (i := 20) rfl)
  have se21 := hsets _ (List.mem_of_getElem? (i := 21) rfl)
  obtain ⟨f_CS, ev0⟩ := is_v (Cond.before_iff.mp se1)
  have hcw : Jvm.Lit.compactW.before _ s = true := se2
  have hn_CS : ¬ (f_CS = (0 : Int32)) := own_ne0 (Cond.before_iff.mp se2) ev0
  obtain ⟨f_SF, ev1, hr_SF⟩ := own_refV (Cond.before_iff.mp se8)
  obtain ⟨f_US, ev2⟩ := own_arrRef (Cond.before_iff.mp se17)
  obtain ⟨f_SS, ev3, hr_SS⟩ := own_refV (Cond.before_iff.mp se21)
  have siUD := hsets _ (List.mem_of_getElem? (i := 31) rfl)
  have svUD := own_eqV (Cond.before_iff.mp (hsets _ (List.mem_of_getElem? (i := 32) rfl)))
  have siHI := hsets _ (List.mem_of_getElem? (i := 34) rfl)
  have svHI := own_eqV (Cond.before_iff.mp (hsets _ (List.mem_of_getElem? (i := 35) rfl)))
  have siLO := hsets _ (List.mem_of_getElem? (i := 37) rfl)
  have svLO := own_eqV (Cond.before_iff.mp (hsets _ (List.mem_of_getElem? (i := 38) rfl)))
  have hC0 : CHv s consts_1 s.vm s.heap := CHv.start (own_EW hw) (fun q hq => hcalls.2.2.1 q hq) hcw (hwd 3 rfl) (hwd 2 rfl)
  obtain ⟨n, o, h1, h2, h3, _, L, rfl, ⟨rfl, N⟩, -, hq⟩ := rm0 l s _ hw tables_1 f_CS f_SF f_US f_SS i0 i1 i2 i3 s.heap s.heap.size (Nat.le_refl _) (Sta.start ev0 (Or.inl se0)) hn_CS (Sta.start ev1 (Or.inl se7)) hr_SF (Sta.start svUD (Or.inl siUD)) (Sta.start svHI (Or.inl siHI)) (Sta.start svLO (Or.inl siLO)) (Sta.start ev2 (Or.inl se15)) (Sta.start ev3 (Or.inl se20)) hr_SS ThS.start (by rw [Launch.stackTraces, hfl]; decide) p e ha hc hk s m _ below hf ((Spec.applies_iff_loose hf).mp happ).1 ⟨rfl, State.Warmed39.refl s, rfl, hC0⟩ ⟨MethodsKnown_of_tablesKnown hcalls.2.1, FramesKnown_of_framesKnown hcalls.1 hf⟩
  refine ⟨n, _, h1, h2, h3, hpost _ _ _ _ _ _ ⟨Cond.after_iff.mpr rfl, Cond.after_iff.mpr (eq_i res_at (Term.int_eval (1)) rfl), trivial⟩ ⟨hq.1, hq.2.1, hq.2.2.1, (hq.2.2.2.sift fun y hy => Or.inr (N y hy)).mono (by decide) (by decide)⟩⟩
theorem main_1_1 : Claimed_1_1 := comes_1 fun _ _ _ _ _ _ h hF => ⟨h.1, hF⟩
theorem main_1_2 : Claimed_1_2 := comes_1 fun _ _ _ _ _ _ h hF => ⟨h.2.1, hF⟩
end Jvm.Pilot.@@N@@
namespace Jvm.Pilot.@@N@@
open Jvm Jvm.ClassFile Sem Op Lib Jvm.Free Jvm.Stand Jvm.Pilot.@@N@@.Jvm.D
/-! MADE BY PROGRAM (witnessworld.py) out of the Statement's table words and the real class files: 44 classes; the members and pool entries that the words name. The judged class is class 1, her method 1. -/
namespace start1
open Jvm.ClassFile
def u (s : String) : CpInfo := .utf8 (stringToUtf16 s)
/-- a pool by its gaps: so many unusable entries, then the entry; so many at the end -/
def gap : Nat → List CpInfo → List CpInfo
  | 0, r => r
  | n + 1, r => .unusable :: gap n r
def poolList (es : List (Nat × CpInfo)) (last : Nat) : List CpInfo := es.foldr (fun e r => gap e.1 (e.2 :: r)) (gap last [])
def pool (es : List (Nat × CpInfo)) (last : Nat) : Array CpInfo := ⟨poolList es last⟩
def fileOf (pool : Array CpInfo) (this : Nat) (attrs : Array Attribute := #[]) (ms : Array MethodInfo := #[]) (fl : Nat := 33) (sup : Nat := 0) (ifs : Array Nat := #[]) (fds : Array FieldInfo := #[]) : ClassFile where
  minorVersion := 0
  majorVersion := 65
  constantPool := pool
  accessFlags := fl
  thisClass := this
  superClass := sup
  interfaces := ifs
  fields := fds
  methods := ms
  attributes := attrs
def plain (name : String) (sup : Option ClassId) : Class where
  name := name
  kind := .ordinary
  loader := none
  accessFlags := 33
  super := sup
  interfaces := #[]
  cf := none
  fields := #[]
  methods := #[]
  instanceTypes := #[]
  staticTypes := #[]
  resolved := #[]
  callSites := []
  init := .initialized
  statics := none
  mirror := none

def pool0 : Array CpInfo := pool [(5, u "<init>"), (0, u "()V"), (1, .class_ 10), (1, u "java/lang/Object"), (85, u "clone"), (0, u "()Ljava/lang/Object;")] 26

def k0c0 : Code := { maxStack := 0, maxLocals := 1, code := object_method_1_code, exceptionTable := #[], attributes := #[] }
def k0m0 : Method := { name := "<init>", desc := "()V", sig := { parameters := [], returnType := none }, accessFlags := 1, code := some k0c0 }
def k0m1 : Method := { name := "clone", desc := "()Ljava/lang/Object;", sig := { parameters := [], returnType := some (.object "java/lang/Object") }, accessFlags := 260, code := none }
/-- java/lang/Object -/
def k0 : Class := { plain "java/lang/Object" none with
  accessFlags := 33
  interfaces := #[]
  cf := some (fileOf pool0 8 #[] #[{ accessFlags := 1, nameIndex := 5, descriptorIndex := 6, attributes := #[] }, { accessFlags := 260, nameIndex := 96, descriptorIndex := 97, attributes := #[] }] 33 0 #[] #[])
  fields := #[]
  methods := #[k0m0, k0m1]
  instanceTypes := #[]
  staticTypes := #[]
  resolved := Array.replicate 124 none
  statics := none }

def pool1 : Array CpInfo := pool [(2, .class_ 4), (1, u "java/lang/Object"), (0, u "<init>"), (0, u "()V"), (0, .string 8), (0, u ""), (0, .string 10), (0, u " lists no state, and a model has at least one"), (0, .methodref 12 13), (0, .class_ 14), (0, .nameAndType 15 16), (0, u "java/lang/String"), (0, u "valueOf"), (0, u "(C)Ljava/lang/String;"), (0, .methodref 12 18), (0, .nameAndType 5 19), (0, u "([C)V"), (0, .methodref 21 22), (0, .class_ 23), (0, .nameAndType 24 25), (0, u "com/example/model_check_sql/modelchecksql/model/ModelReading"), (0, u "noState"), (0, u "(Ljava/lang/String;)Lcom/example/model_check_sql/modelchecksql/model/ModelFormatException;"), (0, .methodref 27 28), (0, .class_ 29), (0, .nameAndType 30 31), (0, u "com/example/model_check_sql/modelchecksql/model/ModelFormatException"), (0, u "getMessage"), (0, u "()Ljava/lang/String;"), (0, .methodref 12 33), (0, .nameAndType 34 35), (0, u "equals"), (0, u "(Ljava/lang/Object;)Z"), (0, .class_ 37), (0, u "com/example/model_check_sql/modelchecksql/model/ModelReadingNoStatePinLaw"), (2, u "law"), (0, u "(IIII)Z")] 3

def k1m0 : Method := { name := "<init>", desc := "()V", sig := { parameters := [], returnType := none }, accessFlags := 2, code := none }
def k1c1 : Code := { maxStack := 6, maxLocals := 12, code := code, exceptionTable := #[], attributes := #[] }
def k1m1 : Method := { name := "law", desc := "(IIII)Z", sig := { parameters := [.int, .int, .int, .int], returnType := some .boolean }, accessFlags := 9, code := some k1c1 }
/-- com/example/model_check_sql/modelchecksql/model/ModelReadingNoStatePinLaw -/
def k1 : Class := { plain "com/example/model_check_sql/modelchecksql/model/ModelReadingNoStatePinLaw" (some 0) with
  accessFlags := 49
  interfaces := #[]
  cf := some (fileOf pool1 36 #[] #[{ accessFlags := 2, nameIndex := 5, descriptorIndex := 6, attributes := #[] }, { accessFlags := 9, nameIndex := 40, descriptorIndex := 41, attributes := #[] }] 49 2 #[] #[])
  fields := #[]
  methods := #[k1m0, k1m1]
  instanceTypes := #[]
  staticTypes := #[]
  resolved := Array.replicate 45 none
  statics := none }

def pool2 : Array CpInfo := pool [(1, .class_ 2), (0, u "java/io/Serializable"), (0, .class_ 4), (0, u "java/lang/Object")] 2

/-- java/io/Serializable -/
def k2 : Class := { plain "java/io/Serializable" (some 0) with
  accessFlags := 1537
  interfaces := #[]
  cf := some (fileOf pool2 1 #[] #[] 1537 3 #[] #[])
  fields := #[]
  methods := #[]
  instanceTypes := #[]
  staticTypes := #[]
  resolved := Array.replicate 7 none
  statics := none }

def pool3 : Array CpInfo := pool [(1, .class_ 2), (0, u "java/lang/Comparable"), (0, .class_ 4), (0, u "java/lang/Object")] 7

/-- java/lang/Comparable -/
def k3 : Class := { plain "java/lang/Comparable" (some 0) with
  accessFlags := 1537
  interfaces := #[]
  cf := some (fileOf pool3 1 #[] #[] 1537 3 #[] #[])
  fields := #[]
  methods := #[]
  instanceTypes := #[]
  staticTypes := #[]
  resolved := Array.replicate 12 none
  statics := none }

def pool4 : Array CpInfo := pool [(2, .class_ 4), (1, u "java/lang/CharSequence"), (42, .class_ 48), (0, u "java/lang/CharSequence$1CodePointIterator"), (10, .class_ 60), (0, u "java/lang/CharSequence$1CharIterator"), (5, .class_ 67), (0, u "java/lang/Object")] 63

/-- java/lang/CharSequence -/
def k4 : Class := { plain "java/lang/CharSequence" (some 0) with
  accessFlags := 1537
  interfaces := #[]
  cf := some (fileOf pool4 2 #[.nestMembers #[47, 59]] #[] 1537 66 #[] #[])
  fields := #[]
  methods := #[]
  instanceTypes := #[]
  staticTypes := #[]
  resolved := Array.replicate 131 none
  statics := none }

def pool5 : Array CpInfo := pool [(1, .class_ 2), (0, u "java/lang/constant/Constable"), (0, .class_ 4), (0, u "java/lang/Object")] 6

/-- java/lang/constant/Constable -/
def k5 : Class := { plain "java/lang/constant/Constable" (some 0) with
  accessFlags := 1537
  interfaces := #[]
  cf := some (fileOf pool5 1 #[] #[] 1537 3 #[] #[])
  fields := #[]
  methods := #[]
  instanceTypes := #[]
  staticTypes := #[]
  resolved := Array.replicate 11 none
  statics := none }

def pool6 : Array CpInfo := pool [(1, .class_ 2), (0, u "java/lang/constant/ConstantDesc"), (0, .class_ 4), (0, u "java/lang/Object")] 32

/-- java/lang/constant/ConstantDesc -/
def k6 : Class := { plain "java/lang/constant/ConstantDesc" (some 0) with
  accessFlags := 1537
  interfaces := #[]
  cf := some (fileOf pool6 1 #[] #[] 1537 3 #[] #[])
  fields := #[]
  methods := #[]
  instanceTypes := #[]
  staticTypes := #[]
  resolved := Array.replicate 37 none
  statics := none }

def pool7 : Array CpInfo := pool [(1, .methodref 2 3), (0, .class_ 4), (0, .nameAndType 5 6), (0, u "java/lang/Object"), (0, u "<init>"), (0, u "()V"), (2, .fieldref 10 11), (0, .class_ 12), (0, .nameAndType 13 14), (0, u "java/lang/String"), (0, u "value"), (0, u "[B"), (0, .fieldref 10 16), (0, .nameAndType 17 18), (0, u "coder"), (0, u "B"), (2, u "hash"), (0, u "I"), (2, u "hashIsZero"), (0, u "Z"), (0, .methodref 10 28), (0, .nameAndType 5 29), (0, u "([CIILjava/lang/Void;)V"), (6, u "checkBoundsOffCount"), (0, u "(III)I"), (0, .fieldref 10 39), (0, .nameAndType 40 26), (0, u "COMPACT_STRINGS"), (1, .class_ 44), (1, u "java/lang/StringUTF16"), (0, u "compress"), (1, .methodref 42 48), (0, .nameAndType 49 50), (0, u "coderFromArrayLen"), (0, u "([BI)B"), (2, u "toBytes"), (0, .methodref 55 56), (0, .class_ 57), (0, .nameAndType 58 59), (0, u "java/util/Arrays"), (0, u "copyOfRange"), (0, u "([BII)[B"), (46, .methodref 107 108), (0, .class_ 109), (0, .nameAndType 110 111), (0, u "java/lang/StringLatin1"), (0, u "inflate"), (0, u "([BI[BII)V"), (30, u "()Z"), (34, .methodref 42 178), (0, .nameAndType 45 179), (0, u "([CII)[B"), (13, .class_ 195), (1, u "java/lang/System"), (13, .methodref 10 210), (0, .nameAndType 5 211), (0, u "([BB)V"), (0, .methodref 193 213), (0, .nameAndType 214 215), (0, u "arraycopy"), (0, u "(Ljava/lang/Object;ILjava/lang/Object;II)V"), (118, u "()I"), (0, .methodref 10 336), (0, .nameAndType 17 337), (0, u "()B"), (2, u "()[B"), (28, u "(C)Z"), (119, .methodref 10 490), (0, .nameAndType 5 491), (0, u "(Ljava/lang/AbstractStringBuilder;Ljava/lang/Void;)V"), (1, .nameAndType 494 142), (0, u "isLatin1"), (11, .nameAndType 507 334), (0, u "length"), (24, u "getBytes"), (8, .methodref 107 542), (0, .nameAndType 543 544), (0, u "equals"), (0, u "([B[B)Z"), (4, .methodref 550 506), (0, .class_ 551), (0, u "java/lang/AbstractStringBuilder"), (0, .methodref 550 553), (0, .nameAndType 554 340), (0, u "getValue"), (18, u "(Ljava/lang/Object;)Z"), (1, .class_ 576), (0, u "java/lang/CharSequence"), (22, u "CASE_INSENSITIVE_ORDER"), (0, u "Ljava/util/Comparator;"), (181, u "valueOf"), (0, u "(C)Ljava/lang/String;"), (37, u "([BIB)V"), (188, u "([C)V"), (4, .methodref 107 1016), (0, .nameAndType 1017 369), (0, u "canEncode"), (0, .methodref 107 1019), (0, .nameAndType 53 1020), (0, u "(C)[B"), (0, .methodref 42 1019), (25, .methodref 550 493), (0, .fieldref 550 1049), (0, .nameAndType 1050 26), (0, u "maybeLatin1"), (2, .fieldref 1054 1055), (0, .class_ 1056), (0, .nameAndType 1057 1058), (0, u "jdk/internal/util/Preconditions"), (0, u "SIOOBE_FORMATTER"), (0, u "Ljava/util/function/BiFunction;"), (5, u "(IIILjava/util/function/BiFunction;)I"), (0, .methodref 1054 1066), (0, .nameAndType 1067 1064), (0, u "checkFromIndexSize"), (33, u "serialPersistentFields"), (0, u "[Ljava/io/ObjectStreamField;"), (0, .class_ 1104), (0, u "java/lang/String$CaseInsensitiveComparator"), (1, .class_ 1107), (0, u "java/io/Serializable"), (0, .class_ 1109), (0, u "java/lang/Comparable"), (0, .class_ 1111), (0, u "java/lang/constant/Constable"), (0, .class_ 1113), (0, u "java/lang/constant/ConstantDesc"), (2, u "serialVersionUID"), (0, u "J"), (3, u "REPL"), (0, u "C"), (2, u "LATIN1"), (1, u "UTF16"), (105, u "(Ljava/lang/StringBuilder;)V")] 217

def k7m0 : Method := { name := "<init>", desc := "()V", sig := { parameters := [], returnType := none }, accessFlags := 1, code := none }
def k7c1 : Code := { maxStack := 5, maxLocals := 2, code := jdk_42_method_3_code, exceptionTable := #[], attributes := #[] }
def k7m1 : Method := { name := "<init>", desc := "([C)V", sig := { parameters := [(.array .char)], returnType := none }, accessFlags := 1, code := some k7c1 }
def k7c2 : Code := { maxStack := 3, maxLocals := 2, code := jdk_42_method_53_code, exceptionTable := #[], attributes := #[] }
def k7m2 : Method := { name := "<init>", desc := "(Ljava/lang/StringBuilder;)V", sig := { parameters := [(.object "java/lang/StringBuilder")], returnType := none }, accessFlags := 1, code := some k7c2 }
def k7c3 : Code := { maxStack := 2, maxLocals := 1, code := jdk_42_method_54_code, exceptionTable := #[], attributes := #[] }
def k7m3 : Method := { name := "length", desc := "()I", sig := { parameters := [], returnType := some .int }, accessFlags := 1, code := some k7c3 }
def k7c4 : Code := { maxStack := 2, maxLocals := 3, code := jdk_42_method_66_code, exceptionTable := #[], attributes := #[] }
def k7m4 : Method := { name := "equals", desc := "(Ljava/lang/Object;)Z", sig := { parameters := [(.object "java/lang/Object")], returnType := some .boolean }, accessFlags := 1, code := some k7c4 }
def k7c5 : Code := { maxStack := 4, maxLocals := 1, code := jdk_42_method_139_code, exceptionTable := #[], attributes := #[] }
def k7m5 : Method := { name := "valueOf", desc := "(C)Ljava/lang/String;", sig := { parameters := [.char], returnType := some (.object "java/lang/String") }, accessFlags := 9, code := some k7c5 }
def k7c6 : Code := { maxStack := 5, maxLocals := 4, code := jdk_42_method_147_code, exceptionTable := #[], attributes := #[] }
def k7m6 : Method := { name := "getBytes", desc := "([BIB)V", sig := { parameters := [(.array .byte), .int, .byte], returnType := none }, accessFlags := 0, code := some k7c6 }
def k7c7 : Code := { maxStack := 4, maxLocals := 6, code := jdk_42_method_149_code, exceptionTable := #[], attributes := #[] }
def k7m7 : Method := { name := "<init>", desc := "([CIILjava/lang/Void;)V", sig := { parameters := [(.array .char), .int, .int, (.object "java/lang/Void")], returnType := none }, accessFlags := 2, code := some k7c7 }
def k7c8 : Code := { maxStack := 5, maxLocals := 5, code := jdk_42_method_150_code, exceptionTable := #[], attributes := #[] }
def k7m8 : Method := { name := "<init>", desc := "(Ljava/lang/AbstractStringBuilder;Ljava/lang/Void;)V", sig := { parameters := [(.object "java/lang/AbstractStringBuilder"), (.object "java/lang/Void")], returnType := none }, accessFlags := 0, code := some k7c8 }
def k7c9 : Code := { maxStack := 2, maxLocals := 3, code := jdk_42_method_151_code, exceptionTable := #[], attributes := #[] }
def k7m9 : Method := { name := "<init>", desc := "([BB)V", sig := { parameters := [(.array .byte), .byte], returnType := none }, accessFlags := 0, code := some k7c9 }
def k7c10 : Code := { maxStack := 1, maxLocals := 1, code := jdk_42_method_152_code, exceptionTable := #[], attributes := #[] }
def k7m10 : Method := { name := "coder", desc := "()B", sig := { parameters := [], returnType := some .byte }, accessFlags := 0, code := some k7c10 }
def k7c11 : Code := { maxStack := 4, maxLocals := 3, code := jdk_42_method_157_code, exceptionTable := #[], attributes := #[] }
def k7m11 : Method := { name := "checkBoundsOffCount", desc := "(III)I", sig := { parameters := [.int, .int, .int], returnType := some .int }, accessFlags := 8, code := some k7c11 }
/-- java/lang/String -/
def k7 : Class := { plain "java/lang/String" (some 0) with
  accessFlags := 49
  interfaces := #[2, 3, 4, 5, 6]
  cf := some (fileOf pool7 10 #[.nestMembers #[1103]] #[{ accessFlags := 1, nameIndex := 5, descriptorIndex := 6, attributes := #[] }, { accessFlags := 1, nameIndex := 5, descriptorIndex := 1010, attributes := #[] }, { accessFlags := 1, nameIndex := 5, descriptorIndex := 1233, attributes := #[] }, { accessFlags := 1, nameIndex := 507, descriptorIndex := 334, attributes := #[] }, { accessFlags := 1, nameIndex := 543, descriptorIndex := 573, attributes := #[] }, { accessFlags := 9, nameIndex := 782, descriptorIndex := 783, attributes := #[] }, { accessFlags := 0, nameIndex := 532, descriptorIndex := 821, attributes := #[] }, { accessFlags := 2, nameIndex := 5, descriptorIndex := 29, attributes := #[] }, { accessFlags := 0, nameIndex := 5, descriptorIndex := 491, attributes := #[] }, { accessFlags := 0, nameIndex := 5, descriptorIndex := 211, attributes := #[] }, { accessFlags := 0, nameIndex := 17, descriptorIndex := 337, attributes := #[] }, { accessFlags := 8, nameIndex := 36, descriptorIndex := 37, attributes := #[] }] 49 2 #[1106, 1108, 575, 1110, 1112] #[{ accessFlags := 18, nameIndex := 13, descriptorIndex := 14, attributes := #[] }, { accessFlags := 18, nameIndex := 17, descriptorIndex := 18, attributes := #[] }, { accessFlags := 2, nameIndex := 21, descriptorIndex := 22, attributes := #[] }, { accessFlags := 2, nameIndex := 25, descriptorIndex := 26, attributes := #[] }, { accessFlags := 26, nameIndex := 1116, descriptorIndex := 1117, attributes := #[] }, { accessFlags := 24, nameIndex := 40, descriptorIndex := 26, attributes := #[] }, { accessFlags := 26, nameIndex := 1101, descriptorIndex := 1102, attributes := #[] }, { accessFlags := 26, nameIndex := 1121, descriptorIndex := 1122, attributes := #[] }, { accessFlags := 25, nameIndex := 599, descriptorIndex := 600, attributes := #[] }, { accessFlags := 24, nameIndex := 1125, descriptorIndex := 18, attributes := #[] }, { accessFlags := 24, nameIndex := 1127, descriptorIndex := 18, attributes := #[] }])
  fields := #[{ name := "value", type := (.array .byte), accessFlags := 18, slot := 0, constantValue := 0 }, { name := "coder", type := .byte, accessFlags := 18, slot := 1, constantValue := 0 }, { name := "hash", type := .int, accessFlags := 2, slot := 2, constantValue := 0 }, { name := "hashIsZero", type := .boolean, accessFlags := 2, slot := 3, constantValue := 0 }, { name := "serialVersionUID", type := .long, accessFlags := 26, slot := 0, constantValue := 0 }, { name := "COMPACT_STRINGS", type := .boolean, accessFlags := 24, slot := 1, constantValue := 0 }, { name := "serialPersistentFields", type := (.array (.object "java/io/ObjectStreamField")), accessFlags := 26, slot := 2, constantValue := 0 }, { name := "REPL", type := .char, accessFlags := 26, slot := 3, constantValue := 0 }, { name := "CASE_INSENSITIVE_ORDER", type := (.object "java/util/Comparator"), accessFlags := 25, slot := 4, constantValue := 0 }, { name := "LATIN1", type := .byte, accessFlags := 24, slot := 5, constantValue := 0 }, { name := "UTF16", type := .byte, accessFlags := 24, slot := 6, constantValue := 0 }]
  methods := #[k7m0, k7m1, k7m2, k7m3, k7m4, k7m5, k7m6, k7m7, k7m8, k7m9, k7m10, k7m11]
  instanceTypes := #[(.array .byte), .byte, .int, .boolean]
  staticTypes := #[.long, .boolean, (.array (.object "java/io/ObjectStreamField")), .char, (.object "java/util/Comparator"), .byte, .byte]
  resolved := Array.replicate 1451 none
  statics := some 0 }

def pool8 : Array CpInfo := pool [(2, .class_ 4), (0, .nameAndType 5 6), (0, u "java/lang/Object"), (0, u "<init>"), (0, u "()V"), (1, .class_ 10), (1, u "com/example/model_check_sql/modelchecksql/model/ModelReading$Rows"), (7, .class_ 20), (1, u "com/example/model_check_sql/modelchecksql/model/ModelReading$Receiver"), (2, .class_ 24), (0, u "com/example/model_check_sql/modelchecksql/model/ModelFormatException"), (1, .class_ 28), (1, u "com/example/model_check_sql/modelchecksql/model/ModelReading"), (3, .class_ 34), (1, u "com/example/model_check_sql/modelchecksql/model/ModelReading$Check"), (5, .class_ 42), (1, u "com/example/model_check_sql/modelchecksql/model/ModelReading$Locator"), (5, u "()Ljava/lang/String;"), (19, .nameAndType 70 48), (1, u "toString"), (11, .class_ 83), (0, u "java/lang/StringBuilder"), (0, .methodref 82 3), (0, .methodref 82 86), (0, .nameAndType 87 88), (0, u "append"), (0, u "(Ljava/lang/String;)Ljava/lang/StringBuilder;"), (0, .string 90), (0, u " lists no state, and a model has at least one"), (0, .methodref 82 68), (0, .methodref 23 93), (0, .nameAndType 5 94), (0, u "(Ljava/lang/String;)V"), (17, u "noState"), (0, u "(Ljava/lang/String;)Lcom/example/model_check_sql/modelchecksql/model/ModelFormatException;")] 8

def k8m0 : Method := { name := "<init>", desc := "()V", sig := { parameters := [], returnType := none }, accessFlags := 2, code := none }
def k8c1 : Code := { maxStack := 4, maxLocals := 1, code := prog_21_method_5_code, exceptionTable := #[], attributes := #[] }
def k8m1 : Method := { name := "noState", desc := "(Ljava/lang/String;)Lcom/example/model_check_sql/modelchecksql/model/ModelFormatException;", sig := { parameters := [(.object "java/lang/String")], returnType := some (.object "com/example/model_check_sql/modelchecksql/model/ModelFormatException") }, accessFlags := 8, code := some k8c1 }
/-- com/example/model_check_sql/modelchecksql/model/ModelReading -/
def k8 : Class := { plain "com/example/model_check_sql/modelchecksql/model/ModelReading" (some 0) with
  accessFlags := 32
  interfaces := #[]
  cf := some (fileOf pool8 26 #[.nestMembers #[40, 32, 18, 8]] #[{ accessFlags := 2, nameIndex := 5, descriptorIndex := 6, attributes := #[] }, { accessFlags := 8, nameIndex := 112, descriptorIndex := 113, attributes := #[] }] 32 2 #[] #[])
  fields := #[]
  methods := #[k8m0, k8m1]
  instanceTypes := #[]
  staticTypes := #[]
  resolved := Array.replicate 122 none
  statics := none }

def pool9 : Array CpInfo := pool [(1, .methodref 2 3), (0, .class_ 4), (0, .nameAndType 5 6), (0, u "java/lang/Object"), (0, u "<init>"), (0, u "()V"), (0, .fieldref 8 9), (0, .class_ 10), (0, .nameAndType 11 12), (0, u "java/lang/Throwable"), (0, u "cause"), (0, u "Ljava/lang/Throwable;"), (0, .fieldref 8 14), (0, .nameAndType 15 16), (0, u "UNASSIGNED_STACK"), (0, u "[Ljava/lang/StackTraceElement;"), (0, .fieldref 8 18), (0, .nameAndType 19 16), (0, u "stackTrace"), (0, .fieldref 8 21), (0, .nameAndType 22 23), (0, u "SUPPRESSED_SENTINEL"), (0, u "Ljava/util/List;"), (0, .fieldref 8 25), (0, .nameAndType 26 23), (0, u "suppressedExceptions"), (0, .methodref 8 28), (0, .nameAndType 29 30), (0, u "fillInStackTrace"), (0, u "()Ljava/lang/Throwable;"), (0, .fieldref 8 32), (0, .nameAndType 33 34), (0, u "detailMessage"), (0, u "Ljava/lang/String;"), (3, u "()Ljava/lang/String;"), (2, u "getMessage"), (51, .class_ 94), (0, u "java/lang/Throwable$WrappedPrintStream"), (6, .class_ 103), (1, u "java/lang/Throwable$PrintStreamOrWriter"), (61, u "$assertionsDisabled"), (0, u "Z"), (26, .class_ 194), (0, u "java/lang/Throwable$WrappedPrintWriter"), (3, .fieldref 8 199), (0, .nameAndType 200 201), (0, u "backtrace"), (0, u "Ljava/lang/Object;"), (0, .methodref 8 203), (0, .nameAndType 29 204), (0, u "(I)Ljava/lang/Throwable;"), (6, u "depth"), (0, u "I"), (10, u "(Ljava/lang/String;)V"), (45, .class_ 271), (1, u "java/lang/Throwable$SentinelHolder"), (32, u "EMPTY_THROWABLE_ARRAY"), (0, u "[Ljava/lang/Throwable;"), (12, .class_ 319), (0, u "java/io/Serializable"), (0, u "serialVersionUID"), (0, u "J"), (5, u "NULL_CAUSE_MESSAGE"), (0, u "SELF_SUPPRESSION_MESSAGE"), (0, u "CAUSE_CAPTION"), (0, u "SUPPRESSED_CAPTION")] 73

def k9c0 : Code := { maxStack := 2, maxLocals := 1, code := jdk_78_method_1_code, exceptionTable := #[], attributes := #[] }
def k9m0 : Method := { name := "<init>", desc := "()V", sig := { parameters := [], returnType := none }, accessFlags := 1, code := some k9c0 }
def k9c1 : Code := { maxStack := 2, maxLocals := 2, code := jdk_78_method_2_code, exceptionTable := #[], attributes := #[] }
def k9m1 : Method := { name := "<init>", desc := "(Ljava/lang/String;)V", sig := { parameters := [(.object "java/lang/String")], returnType := none }, accessFlags := 1, code := some k9c1 }
def k9c2 : Code := { maxStack := 1, maxLocals := 1, code := jdk_78_method_6_code, exceptionTable := #[], attributes := #[] }
def k9m2 : Method := { name := "getMessage", desc := "()Ljava/lang/String;", sig := { parameters := [], returnType := some (.object "java/lang/String") }, accessFlags := 1, code := some k9c2 }
def k9c3 : Code := { maxStack := 2, maxLocals := 1, code := ⟨#[0x2a, 0xb4, 0x00, 0x11, 0xc7, 0x00, 0x0a, 0x2a, 0xb4, 0x00, 0xc6, 0xc6, 0x00, 0x10, 0x2a, 0x03, 0xb6, 0x00, 0xca, 0x57, 0x2a, 0xb2, 0x00, 0x0d, 0xb5, 0x00, 0x11, 0x2a, 0xb0]⟩, exceptionTable := #[], attributes := #[] }
def k9m3 : Method := { name := "fillInStackTrace", desc := "()Ljava/lang/Throwable;", sig := { parameters := [], returnType := some (.object "java/lang/Throwable") }, accessFlags := 33, code := some k9c3 }
def k9m4 : Method := { name := "fillInStackTrace", desc := "(I)Ljava/lang/Throwable;", sig := { parameters := [.int], returnType := some (.object "java/lang/Throwable") }, accessFlags := 258, code := none }
/-- java/lang/Throwable -/
def k9 : Class := { plain "java/lang/Throwable" (some 0) with
  accessFlags := 33
  interfaces := #[2]
  cf := some (fileOf pool9 8 #[.nestMembers #[193, 93, 101, 269]] #[{ accessFlags := 1, nameIndex := 5, descriptorIndex := 6, attributes := #[] }, { accessFlags := 1, nameIndex := 5, descriptorIndex := 223, attributes := #[] }, { accessFlags := 1, nameIndex := 41, descriptorIndex := 38, attributes := #[] }, { accessFlags := 33, nameIndex := 29, descriptorIndex := 30, attributes := #[] }, { accessFlags := 258, nameIndex := 29, descriptorIndex := 204, attributes := #[] }] 33 2 #[318] #[{ accessFlags := 26, nameIndex := 320, descriptorIndex := 321, attributes := #[] }, { accessFlags := 130, nameIndex := 200, descriptorIndex := 201, attributes := #[] }, { accessFlags := 2, nameIndex := 33, descriptorIndex := 34, attributes := #[] }, { accessFlags := 26, nameIndex := 15, descriptorIndex := 16, attributes := #[] }, { accessFlags := 2, nameIndex := 11, descriptorIndex := 12, attributes := #[] }, { accessFlags := 2, nameIndex := 19, descriptorIndex := 16, attributes := #[] }, { accessFlags := 130, nameIndex := 211, descriptorIndex := 212, attributes := #[] }, { accessFlags := 26, nameIndex := 22, descriptorIndex := 23, attributes := #[] }, { accessFlags := 2, nameIndex := 26, descriptorIndex := 23, attributes := #[] }, { accessFlags := 26, nameIndex := 327, descriptorIndex := 34, attributes := #[] }, { accessFlags := 26, nameIndex := 328, descriptorIndex := 34, attributes := #[] }, { accessFlags := 26, nameIndex := 329, descriptorIndex := 34, attributes := #[] }, { accessFlags := 26, nameIndex := 330, descriptorIndex := 34, attributes := #[] }, { accessFlags := 26, nameIndex := 304, descriptorIndex := 305, attributes := #[] }, { accessFlags := 4120, nameIndex := 165, descriptorIndex := 166, attributes := #[] }])
  fields := #[{ name := "serialVersionUID", type := .long, accessFlags := 26, slot := 0, constantValue := 0 }, { name := "backtrace", type := (.object "java/lang/Object"), accessFlags := 130, slot := 0, constantValue := 0 }, { name := "detailMessage", type := (.object "java/lang/String"), accessFlags := 2, slot := 1, constantValue := 0 }, { name := "UNASSIGNED_STACK", type := (.array (.object "java/lang/StackTraceElement")), accessFlags := 26, slot := 1, constantValue := 0 }, { name := "cause", type := (.object "java/lang/Throwable"), accessFlags := 2, slot := 2, constantValue := 0 }, { name := "stackTrace", type := (.array (.object "java/lang/StackTraceElement")), accessFlags := 2, slot := 3, constantValue := 0 }, { name := "depth", type := .int, accessFlags := 130, slot := 4, constantValue := 0 }, { name := "SUPPRESSED_SENTINEL", type := (.object "java/util/List"), accessFlags := 26, slot := 2, constantValue := 0 }, { name := "suppressedExceptions", type := (.object "java/util/List"), accessFlags := 2, slot := 5, constantValue := 0 }, { name := "NULL_CAUSE_MESSAGE", type := (.object "java/lang/String"), accessFlags := 26, slot := 3, constantValue := 0 }, { name := "SELF_SUPPRESSION_MESSAGE", type := (.object "java/lang/String"), accessFlags := 26, slot := 4, constantValue := 0 }, { name := "CAUSE_CAPTION", type := (.object "java/lang/String"), accessFlags := 26, slot := 5, constantValue := 0 }, { name := "SUPPRESSED_CAPTION", type := (.object "java/lang/String"), accessFlags := 26, slot := 6, constantValue := 0 }, { name := "EMPTY_THROWABLE_ARRAY", type := (.array (.object "java/lang/Throwable")), accessFlags := 26, slot := 7, constantValue := 0 }, { name := "$assertionsDisabled", type := .boolean, accessFlags := 4120, slot := 8, constantValue := 0 }]
  methods := #[k9m0, k9m1, k9m2, k9m3, k9m4]
  instanceTypes := #[(.object "java/lang/Object"), (.object "java/lang/String"), (.object "java/lang/Throwable"), (.array (.object "java/lang/StackTraceElement")), .int, (.object "java/util/List")]
  staticTypes := #[.long, (.array (.object "java/lang/StackTraceElement")), (.object "java/util/List"), (.object "java/lang/String"), (.object "java/lang/String"), (.object "java/lang/String"), (.object "java/lang/String"), (.array (.object "java/lang/Throwable")), .boolean]
  resolved := Array.replicate 404 none
  statics := some 1 }

def pool10 : Array CpInfo := pool [(2, .class_ 4), (1, u "java/lang/Throwable"), (0, u "<init>"), (0, u "()V"), (0, .methodref 2 8), (0, .nameAndType 5 9), (0, u "(Ljava/lang/String;)V"), (9, .class_ 20), (0, u "java/lang/Exception"), (0, u "serialVersionUID"), (0, u "J")] 17

def k10m0 : Method := { name := "<init>", desc := "()V", sig := { parameters := [], returnType := none }, accessFlags := 1, code := none }
def k10c1 : Code := { maxStack := 2, maxLocals := 2, code := jdk_59_method_2_code, exceptionTable := #[], attributes := #[] }
def k10m1 : Method := { name := "<init>", desc := "(Ljava/lang/String;)V", sig := { parameters := [(.object "java/lang/String")], returnType := none }, accessFlags := 1, code := some k10c1 }
/-- java/lang/Exception -/
def k10 : Class := { plain "java/lang/Exception" (some 9) with
  accessFlags := 33
  interfaces := #[]
  cf := some (fileOf pool10 19 #[] #[{ accessFlags := 1, nameIndex := 5, descriptorIndex := 6, attributes := #[] }, { accessFlags := 1, nameIndex := 5, descriptorIndex := 9, attributes := #[] }] 33 2 #[] #[{ accessFlags := 24, nameIndex := 21, descriptorIndex := 22, attributes := #[] }])
  fields := #[{ name := "serialVersionUID", type := .long, accessFlags := 24, slot := 0, constantValue := 0 }]
  methods := #[k10m0, k10m1]
  instanceTypes := #[(.object "java/lang/Object"), (.object "java/lang/String"), (.object "java/lang/Throwable"), (.array (.object "java/lang/StackTraceElement")), .int, (.object "java/util/List")]
  staticTypes := #[.long]
  resolved := Array.replicate 40 none
  statics := none }

def pool11 : Array CpInfo := pool [(2, .class_ 4), (1, u "java/lang/Exception"), (0, u "<init>"), (0, u "()V"), (0, .methodref 2 8), (0, .nameAndType 5 9), (0, u "(Ljava/lang/String;)V"), (9, .class_ 20), (0, u "java/lang/RuntimeException"), (0, u "serialVersionUID"), (0, u "J")] 17

def k11m0 : Method := { name := "<init>", desc := "()V", sig := { parameters := [], returnType := none }, accessFlags := 1, code := none }
def k11c1 : Code := { maxStack := 2, maxLocals := 2, code := jdk_58_method_2_code, exceptionTable := #[], attributes := #[] }
def k11m1 : Method := { name := "<init>", desc := "(Ljava/lang/String;)V", sig := { parameters := [(.object "java/lang/String")], returnType := none }, accessFlags := 1, code := some k11c1 }
/-- java/lang/RuntimeException -/
def k11 : Class := { plain "java/lang/RuntimeException" (some 10) with
  accessFlags := 33
  interfaces := #[]
  cf := some (fileOf pool11 19 #[] #[{ accessFlags := 1, nameIndex := 5, descriptorIndex := 6, attributes := #[] }, { accessFlags := 1, nameIndex := 5, descriptorIndex := 9, attributes := #[] }] 33 2 #[] #[{ accessFlags := 24, nameIndex := 21, descriptorIndex := 22, attributes := #[] }])
  fields := #[{ name := "serialVersionUID", type := .long, accessFlags := 24, slot := 0, constantValue := 0 }]
  methods := #[k11m0, k11m1]
  instanceTypes := #[(.object "java/lang/Object"), (.object "java/lang/String"), (.object "java/lang/Throwable"), (.array (.object "java/lang/StackTraceElement")), .int, (.object "java/util/List")]
  staticTypes := #[.long]
  resolved := Array.replicate 40 none
  statics := none }

def pool12 : Array CpInfo := pool [(2, .class_ 4), (1, u "java/lang/RuntimeException"), (0, u "<init>"), (0, u "()V"), (0, .methodref 2 8), (0, .nameAndType 5 9), (0, u "(Ljava/lang/String;)V"), (6, .class_ 17), (0, u "java/lang/IllegalArgumentException"), (0, u "serialVersionUID"), (0, u "J")] 15

def k12m0 : Method := { name := "<init>", desc := "()V", sig := { parameters := [], returnType := none }, accessFlags := 1, code := none }
def k12c1 : Code := { maxStack := 2, maxLocals := 2, code := jdk_57_method_2_code, exceptionTable := #[], attributes := #[] }
def k12m1 : Method := { name := "<init>", desc := "(Ljava/lang/String;)V", sig := { parameters := [(.object "java/lang/String")], returnType := none }, accessFlags := 1, code := some k12c1 }
/-- java/lang/IllegalArgumentException -/
def k12 : Class := { plain "java/lang/IllegalArgumentException" (some 11) with
  accessFlags := 33
  interfaces := #[]
  cf := some (fileOf pool12 16 #[] #[{ accessFlags := 1, nameIndex := 5, descriptorIndex := 6, attributes := #[] }, { accessFlags := 1, nameIndex := 5, descriptorIndex := 9, attributes := #[] }] 33 2 #[] #[{ accessFlags := 26, nameIndex := 18, descriptorIndex := 19, attributes := #[] }])
  fields := #[{ name := "serialVersionUID", type := .long, accessFlags := 26, slot := 0, constantValue := 0 }]
  methods := #[k12m0, k12m1]
  instanceTypes := #[(.object "java/lang/Object"), (.object "java/lang/String"), (.object "java/lang/Throwable"), (.array (.object "java/lang/StackTraceElement")), .int, (.object "java/util/List")]
  staticTypes := #[.long]
  resolved := Array.replicate 35 none
  statics := none }

def pool13 : Array CpInfo := pool [(1, .methodref 2 3), (0, .class_ 4), (0, .nameAndType 5 6), (0, u "java/lang/IllegalArgumentException"), (0, u "<init>"), (0, u "(Ljava/lang/String;)V"), (0, .class_ 8), (0, u "com/example/model_check_sql/modelchecksql/model/ModelFormatException"), (0, u "serialVersionUID"), (0, u "J")] 7

def k13c0 : Code := { maxStack := 2, maxLocals := 2, code := prog_20_method_1_code, exceptionTable := #[], attributes := #[] }
def k13m0 : Method := { name := "<init>", desc := "(Ljava/lang/String;)V", sig := { parameters := [(.object "java/lang/String")], returnType := none }, accessFlags := 1, code := some k13c0 }
/-- com/example/model_check_sql/modelchecksql/model/ModelFormatException -/
def k13 : Class := { plain "com/example/model_check_sql/modelchecksql/model/ModelFormatException" (some 12) with
  accessFlags := 33
  interfaces := #[]
  cf := some (fileOf pool13 7 #[] #[{ accessFlags := 1, nameIndex := 5, descriptorIndex := 6, attributes := #[] }] 33 2 #[] #[{ accessFlags := 26, nameIndex := 9, descriptorIndex := 10, attributes := #[] }])
  fields := #[{ name := "serialVersionUID", type := .long, accessFlags := 26, slot := 0, constantValue := 0 }]
  methods := #[k13m0]
  instanceTypes := #[(.object "java/lang/Object"), (.object "java/lang/String"), (.object "java/lang/Throwable"), (.array (.object "java/lang/StackTraceElement")), .int, (.object "java/util/List")]
  staticTypes := #[.long]
  resolved := Array.replicate 18 none
  statics := none }

def pool14 : Array CpInfo := pool [(1, .class_ 2), (0, u "java/lang/Appendable"), (0, .class_ 4), (0, u "java/lang/Object")] 9

/-- java/lang/Appendable -/
def k14 : Class := { plain "java/lang/Appendable" (some 0) with
  accessFlags := 1537
  interfaces := #[]
  cf := some (fileOf pool14 1 #[] #[] 1537 3 #[] #[])
  fields := #[]
  methods := #[]
  instanceTypes := #[]
  staticTypes := #[]
  resolved := Array.replicate 14 none
  statics := none }

def pool15 : Array CpInfo := pool [(1, .class_ 2), (0, u "java/lang/String"), (0, .methodref 4 5), (0, .class_ 6), (0, .nameAndType 7 8), (0, u "java/lang/Object"), (0, u "<init>"), (0, u "()V"), (1, .class_ 12), (1, u "java/lang/AbstractStringBuilder"), (0, u "EMPTYVALUE"), (0, u "[B"), (0, .fieldref 10 16), (0, .nameAndType 17 14), (0, u "value"), (0, .fieldref 1 19), (0, .nameAndType 20 21), (0, u "COMPACT_STRINGS"), (0, u "Z"), (0, .fieldref 10 23), (0, .nameAndType 24 25), (0, u "coder"), (0, u "B"), (0, .methodref 27 28), (0, .class_ 29), (0, .nameAndType 30 31), (0, u "java/lang/StringUTF16"), (0, u "newBytesFor"), (0, u "(I)[B"), (0, .methodref 1 33), (0, .nameAndType 34 35), (0, u "length"), (0, u "()I"), (3, .integer 2147483647), (0, .methodref 1 41), (0, .nameAndType 24 42), (0, u "()B"), (2, u "append"), (0, u "(Ljava/lang/String;)Ljava/lang/AbstractStringBuilder;"), (1, .class_ 49), (0, u "java/lang/CharSequence"), (19, u "(Ljava/lang/String;)V"), (5, u "maybeLatin1"), (3, .fieldref 10 80), (0, .nameAndType 81 82), (0, u "count"), (0, u "I"), (0, .methodref 10 84), (0, .nameAndType 85 86), (0, u "isLatin1"), (0, u "()Z"), (1, .class_ 90), (1, u "java/lang/StringLatin1"), (9, .methodref 10 101), (0, .nameAndType 102 103), (0, u "ensureCapacityInternal"), (0, u "(I)V"), (0, .methodref 10 105), (0, .nameAndType 106 107), (0, u "newCapacity"), (0, u "(I)I"), (0, .methodref 109 110), (0, .class_ 111), (0, .nameAndType 112 113), (0, u "java/util/Arrays"), (0, u "copyOf"), (0, u "([BI)[B"), (0, .methodref 115 116), (0, .class_ 117), (0, .nameAndType 118 119), (0, u "jdk/internal/util/ArraysSupport"), (0, u "newLength"), (0, u "(III)I"), (5, .methodref 88 126), (0, .nameAndType 127 128), (0, u "inflate"), (0, u "([BI[BII)V"), (66, .methodref 10 196), (0, .nameAndType 127 8), (11, .methodref 10 209), (0, .nameAndType 210 211), (0, u "putStringAt"), (0, u "(ILjava/lang/String;)V"), (5, u "inflateIfNeededFor"), (2, .nameAndType 221 222), (0, u "getBytes"), (0, u "([BIB)V"), (174, .methodref 10 398), (0, .nameAndType 217 69), (0, .methodref 1 220), (3, u "()[B"), (40, .class_ 445), (0, u "java/lang/Appendable"), (106, u "getValue")] 56

def k15m0 : Method := { name := "<init>", desc := "()V", sig := { parameters := [], returnType := none }, accessFlags := 0, code := none }
def k15c1 : Code := { maxStack := 2, maxLocals := 2, code := jdk_68_method_2_code, exceptionTable := #[], attributes := #[] }
def k15m1 : Method := { name := "<init>", desc := "(I)V", sig := { parameters := [.int], returnType := none }, accessFlags := 0, code := some k15c1 }
def k15c2 : Code := { maxStack := 1, maxLocals := 1, code := jdk_68_method_6_code, exceptionTable := #[], attributes := #[] }
def k15m2 : Method := { name := "length", desc := "()I", sig := { parameters := [], returnType := some .int }, accessFlags := 1, code := some k15c2 }
def k15c3 : Code := { maxStack := 4, maxLocals := 3, code := jdk_68_method_9_code, exceptionTable := #[], attributes := #[] }
def k15m3 : Method := { name := "ensureCapacityInternal", desc := "(I)V", sig := { parameters := [.int], returnType := none }, accessFlags := 2, code := some k15c3 }
def k15c4 : Code := { maxStack := 5, maxLocals := 6, code := jdk_68_method_10_code, exceptionTable := #[], attributes := #[] }
def k15m4 : Method := { name := "newCapacity", desc := "(I)I", sig := { parameters := [.int], returnType := some .int }, accessFlags := 2, code := some k15c4 }
def k15c5 : Code := { maxStack := 5, maxLocals := 2, code := jdk_68_method_11_code, exceptionTable := #[], attributes := #[] }
def k15m5 : Method := { name := "inflate", desc := "()V", sig := { parameters := [], returnType := none }, accessFlags := 2, code := some k15c5 }
def k15c6 : Code := { maxStack := 3, maxLocals := 3, code := jdk_68_method_22_code, exceptionTable := #[], attributes := #[] }
def k15m6 : Method := { name := "append", desc := "(Ljava/lang/String;)Ljava/lang/AbstractStringBuilder;", sig := { parameters := [(.object "java/lang/String")], returnType := some (.object "java/lang/AbstractStringBuilder") }, accessFlags := 1, code := some k15c6 }
def k15c7 : Code := { maxStack := 1, maxLocals := 1, code := jdk_68_method_64_code, exceptionTable := #[], attributes := #[] }
def k15m7 : Method := { name := "getValue", desc := "()[B", sig := { parameters := [], returnType := some (.array .byte) }, accessFlags := 16, code := some k15c7 }
def k15c8 : Code := { maxStack := 1, maxLocals := 1, code := jdk_68_method_68_code, exceptionTable := #[], attributes := #[] }
def k15m8 : Method := { name := "isLatin1", desc := "()Z", sig := { parameters := [], returnType := some .boolean }, accessFlags := 16, code := some k15c8 }
def k15c9 : Code := { maxStack := 2, maxLocals := 2, code := jdk_68_method_71_code, exceptionTable := #[], attributes := #[] }
def k15m9 : Method := { name := "inflateIfNeededFor", desc := "(Ljava/lang/String;)V", sig := { parameters := [(.object "java/lang/String")], returnType := none }, accessFlags := 2, code := some k15c9 }
def k15c10 : Code := { maxStack := 4, maxLocals := 3, code := jdk_68_method_73_code, exceptionTable := #[], attributes := #[] }
def k15m10 : Method := { name := "putStringAt", desc := "(ILjava/lang/String;)V", sig := { parameters := [.int, (.object "java/lang/String")], returnType := none }, accessFlags := 2, code := some k15c10 }
/-- java/lang/AbstractStringBuilder -/
def k15 : Class := { plain "java/lang/AbstractStringBuilder" (some 0) with
  accessFlags := 1056
  interfaces := #[14, 4]
  cf := some (fileOf pool15 10 #[] #[{ accessFlags := 0, nameIndex := 7, descriptorIndex := 8, attributes := #[] }, { accessFlags := 0, nameIndex := 7, descriptorIndex := 103, attributes := #[] }, { accessFlags := 1, nameIndex := 34, descriptorIndex := 35, attributes := #[] }, { accessFlags := 2, nameIndex := 102, descriptorIndex := 103, attributes := #[] }, { accessFlags := 2, nameIndex := 106, descriptorIndex := 107, attributes := #[] }, { accessFlags := 2, nameIndex := 127, descriptorIndex := 8, attributes := #[] }, { accessFlags := 1, nameIndex := 45, descriptorIndex := 46, attributes := #[] }, { accessFlags := 16, nameIndex := 552, descriptorIndex := 403, attributes := #[] }, { accessFlags := 16, nameIndex := 85, descriptorIndex := 86, attributes := #[] }, { accessFlags := 2, nameIndex := 217, descriptorIndex := 69, attributes := #[] }, { accessFlags := 2, nameIndex := 210, descriptorIndex := 211, attributes := #[] }] 1056 4 #[444, 48] #[{ accessFlags := 0, nameIndex := 17, descriptorIndex := 14, attributes := #[] }, { accessFlags := 0, nameIndex := 24, descriptorIndex := 25, attributes := #[] }, { accessFlags := 0, nameIndex := 75, descriptorIndex := 21, attributes := #[] }, { accessFlags := 0, nameIndex := 81, descriptorIndex := 82, attributes := #[] }, { accessFlags := 26, nameIndex := 13, descriptorIndex := 14, attributes := #[] }])
  fields := #[{ name := "value", type := (.array .byte), accessFlags := 0, slot := 0, constantValue := 0 }, { name := "coder", type := .byte, accessFlags := 0, slot := 1, constantValue := 0 }, { name := "maybeLatin1", type := .boolean, accessFlags := 0, slot := 2, constantValue := 0 }, { name := "count", type := .int, accessFlags := 0, slot := 3, constantValue := 0 }, { name := "EMPTYVALUE", type := (.array .byte), accessFlags := 26, slot := 0, constantValue := 0 }]
  methods := #[k15m0, k15m1, k15m2, k15m3, k15m4, k15m5, k15m6, k15m7, k15m8, k15m9, k15m10]
  instanceTypes := #[(.array .byte), .byte, .boolean, .int]
  staticTypes := #[(.array .byte)]
  resolved := Array.replicate 609 none
  statics := none }

def pool16 : Array CpInfo := pool [(1, .methodref 2 3), (0, .class_ 4), (0, .nameAndType 5 6), (0, u "java/lang/AbstractStringBuilder"), (0, u "<init>"), (0, u "(I)V"), (11, .class_ 20), (1, u "java/lang/String"), (3, .class_ 26), (1, u "java/lang/StringBuilder"), (0, u "append"), (0, u "(Ljava/lang/String;)Ljava/lang/StringBuilder;"), (0, .methodref 2 30), (0, .nameAndType 27 31), (0, u "(Ljava/lang/String;)Ljava/lang/AbstractStringBuilder;"), (105, .methodref 18 138), (0, .nameAndType 5 139), (0, u "(Ljava/lang/StringBuilder;)V"), (5, u "()V"), (10, u "()I"), (186, .methodref 2 344), (0, .nameAndType 345 156), (0, u "length"), (3, .class_ 350), (0, u "java/lang/Appendable"), (0, .class_ 352), (0, u "java/io/Serializable"), (0, .class_ 354), (0, u "java/lang/Comparable"), (0, .class_ 356), (0, u "java/lang/CharSequence"), (0, u "serialVersionUID"), (0, u "J"), (40, u "toString"), (0, u "()Ljava/lang/String;")] 21

def k16c0 : Code := { maxStack := 2, maxLocals := 1, code := jdk_67_method_1_code, exceptionTable := #[], attributes := #[] }
def k16m0 : Method := { name := "<init>", desc := "()V", sig := { parameters := [], returnType := none }, accessFlags := 1, code := some k16c0 }
def k16c1 : Code := { maxStack := 2, maxLocals := 2, code := jdk_67_method_7_code, exceptionTable := #[], attributes := #[] }
def k16m1 : Method := { name := "append", desc := "(Ljava/lang/String;)Ljava/lang/StringBuilder;", sig := { parameters := [(.object "java/lang/String")], returnType := some (.object "java/lang/StringBuilder") }, accessFlags := 1, code := some k16c1 }
def k16c2 : Code := { maxStack := 3, maxLocals := 1, code := jdk_67_method_42_code, exceptionTable := #[], attributes := #[] }
def k16m2 : Method := { name := "toString", desc := "()Ljava/lang/String;", sig := { parameters := [], returnType := some (.object "java/lang/String") }, accessFlags := 1, code := some k16c2 }
def k16c3 : Code := { maxStack := 1, maxLocals := 1, code := jdk_67_method_93_code, exceptionTable := #[], attributes := #[] }
def k16m3 : Method := { name := "length", desc := "()I", sig := { parameters := [], returnType := some .int }, accessFlags := 4161, code := some k16c3 }
/-- java/lang/StringBuilder -/
def k16 : Class := { plain "java/lang/StringBuilder" (some 15) with
  accessFlags := 49
  interfaces := #[14, 2, 3, 4]
  cf := some (fileOf pool16 24 #[] #[{ accessFlags := 1, nameIndex := 5, descriptorIndex := 145, attributes := #[] }, { accessFlags := 1, nameIndex := 27, descriptorIndex := 28, attributes := #[] }, { accessFlags := 1, nameIndex := 399, descriptorIndex := 400, attributes := #[] }, { accessFlags := 4161, nameIndex := 345, descriptorIndex := 156, attributes := #[] }] 49 2 #[349, 351, 353, 355] #[{ accessFlags := 24, nameIndex := 357, descriptorIndex := 358, attributes := #[] }])
  fields := #[{ name := "serialVersionUID", type := .long, accessFlags := 24, slot := 0, constantValue := 0 }]
  methods := #[k16m0, k16m1, k16m2, k16m3]
  instanceTypes := #[(.array .byte), .byte, .boolean, .int]
  staticTypes := #[.long]
  resolved := Array.replicate 422 none
  statics := none }

def pool17 : Array CpInfo := pool [(2, .class_ 4), (1, u "java/lang/Object"), (0, u "<init>"), (0, u "()V"), (1, .class_ 10), (1, u "java/lang/System"), (0, u "allowSecurityManager"), (0, u "I"), (16, u "cons"), (0, u "Ljava/io/Console;"), (77, .class_ 110), (1, u "java/lang/System$CallersHolder"), (43, u "initialErrStream"), (0, u "Ljava/io/PrintStream;"), (19, u "security"), (0, u "Ljava/lang/SecurityManager;"), (31, .class_ 209), (0, u "java/lang/System$1"), (7, u "props"), (0, u "Ljava/util/Properties;"), (2, u "lineSeparator"), (0, u "Ljava/lang/String;"), (96, .class_ 321), (1, u "java/lang/System$LoggerFinder"), (5, .class_ 328), (0, u "java/lang/System$Logger"), (67, u "err"), (2, u "out"), (91, u "notSupportedJnuEncoding"), (15, u "in"), (17, u "initialIn"), (0, u "Ljava/io/InputStream;"), (35, u "bootLayer"), (0, u "Ljava/lang/ModuleLayer;"), (99, .class_ 664), (0, u "java/lang/System$2"), (9, u "NEVER"), (2, u "MAYBE"), (49, u "arraycopy"), (0, u "(Ljava/lang/Object;ILjava/lang/Object;II)V"), (72, .class_ 802), (0, u "java/lang/System$Logger$Level")] 31

def k17m0 : Method := { name := "<init>", desc := "()V", sig := { parameters := [], returnType := none }, accessFlags := 2, code := none }
def k17m1 : Method := { name := "arraycopy", desc := "(Ljava/lang/Object;ILjava/lang/Object;II)V", sig := { parameters := [(.object "java/lang/Object"), .int, (.object "java/lang/Object"), .int, .int], returnType := none }, accessFlags := 265, code := none }
/-- java/lang/System -/
def k17 : Class := { plain "java/lang/System" (some 0) with
  accessFlags := 49
  interfaces := #[]
  cf := some (fileOf pool17 8 #[.nestMembers #[319, 327, 801, 108, 663, 208]] #[{ accessFlags := 2, nameIndex := 5, descriptorIndex := 6, attributes := #[] }, { accessFlags := 265, nameIndex := 727, descriptorIndex := 728, attributes := #[] }] 49 2 #[] #[{ accessFlags := 25, nameIndex := 507, descriptorIndex := 526, attributes := #[] }, { accessFlags := 25, nameIndex := 399, descriptorIndex := 155, attributes := #[] }, { accessFlags := 25, nameIndex := 396, descriptorIndex := 155, attributes := #[] }, { accessFlags := 10, nameIndex := 525, descriptorIndex := 526, attributes := #[] }, { accessFlags := 26, nameIndex := 674, descriptorIndex := 12, attributes := #[] }, { accessFlags := 26, nameIndex := 677, descriptorIndex := 12, attributes := #[] }, { accessFlags := 10, nameIndex := 11, descriptorIndex := 12, attributes := #[] }, { accessFlags := 74, nameIndex := 175, descriptorIndex := 176, attributes := #[] }, { accessFlags := 10, nameIndex := 491, descriptorIndex := 222, attributes := #[] }, { accessFlags := 74, nameIndex := 29, descriptorIndex := 30, attributes := #[] }, { accessFlags := 74, nameIndex := 154, descriptorIndex := 155, attributes := #[] }, { accessFlags := 10, nameIndex := 217, descriptorIndex := 218, attributes := #[] }, { accessFlags := 10, nameIndex := 221, descriptorIndex := 222, attributes := #[] }, { accessFlags := 8, nameIndex := 562, descriptorIndex := 563, attributes := #[] }])
  fields := #[{ name := "in", type := (.object "java/io/InputStream"), accessFlags := 25, slot := 0, constantValue := 0 }, { name := "out", type := (.object "java/io/PrintStream"), accessFlags := 25, slot := 1, constantValue := 0 }, { name := "err", type := (.object "java/io/PrintStream"), accessFlags := 25, slot := 2, constantValue := 0 }, { name := "initialIn", type := (.object "java/io/InputStream"), accessFlags := 10, slot := 3, constantValue := 0 }, { name := "NEVER", type := .int, accessFlags := 26, slot := 4, constantValue := 0 }, { name := "MAYBE", type := .int, accessFlags := 26, slot := 5, constantValue := 0 }, { name := "allowSecurityManager", type := .int, accessFlags := 10, slot := 6, constantValue := 0 }, { name := "security", type := (.object "java/lang/SecurityManager"), accessFlags := 74, slot := 7, constantValue := 0 }, { name := "notSupportedJnuEncoding", type := (.object "java/lang/String"), accessFlags := 10, slot := 8, constantValue := 0 }, { name := "cons", type := (.object "java/io/Console"), accessFlags := 74, slot := 9, constantValue := 0 }, { name := "initialErrStream", type := (.object "java/io/PrintStream"), accessFlags := 74, slot := 10, constantValue := 0 }, { name := "props", type := (.object "java/util/Properties"), accessFlags := 10, slot := 11, constantValue := 0 }, { name := "lineSeparator", type := (.object "java/lang/String"), accessFlags := 10, slot := 12, constantValue := 0 }, { name := "bootLayer", type := (.object "java/lang/ModuleLayer"), accessFlags := 8, slot := 13, constantValue := 0 }]
  methods := #[k17m0, k17m1]
  instanceTypes := #[]
  staticTypes := #[(.object "java/io/InputStream"), (.object "java/io/PrintStream"), (.object "java/io/PrintStream"), (.object "java/io/InputStream"), .int, .int, .int, (.object "java/lang/SecurityManager"), (.object "java/lang/String"), (.object "java/io/Console"), (.object "java/io/PrintStream"), (.object "java/util/Properties"), (.object "java/lang/String"), (.object "java/lang/ModuleLayer")]
  resolved := Array.replicate 834 none
  statics := none }

def pool18 : Array CpInfo := pool [(9, u "<init>"), (6, .class_ 18), (1, u "java/lang/Object"), (0, u "()V"), (1, .class_ 23), (1, u "jdk/internal/util/ArraysSupport"), (0, u "LOG2_ARRAY_LONG_INDEX_SCALE"), (0, u "I"), (2, u "U"), (0, u "Ljdk/internal/misc/Unsafe;"), (8, u "BIG_ENDIAN"), (0, u "Z"), (8, u "LOG2_BYTE_BIT_SIZE"), (4, u "LOG2_ARRAY_INT_INDEX_SCALE"), (54, u "JLA"), (0, u "Ljdk/internal/access/JavaLangAccess;"), (11, u "LOG2_ARRAY_BOOLEAN_INDEX_SCALE"), (9, u "LOG2_ARRAY_BYTE_INDEX_SCALE"), (5, u "LOG2_ARRAY_CHAR_INDEX_SCALE"), (5, u "LOG2_ARRAY_SHORT_INDEX_SCALE"), (18, u "LOG2_ARRAY_FLOAT_INDEX_SCALE"), (24, u "LOG2_ARRAY_DOUBLE_INDEX_SCALE"), (6, .methodref 195 196), (0, .class_ 197), (0, .nameAndType 198 199), (0, u "java/lang/Math"), (0, u "max"), (0, u "(II)I"), (0, .integer 2147483639), (76, u "T_BOOLEAN"), (2, u "T_CHAR"), (1, u "T_FLOAT"), (1, u "T_DOUBLE"), (1, u "T_BYTE"), (1, u "T_SHORT"), (1, u "T_INT"), (1, u "T_LONG"), (1, u "SOFT_MAX_ARRAY_LENGTH"), (56, u "newLength"), (0, u "(III)I")] 25

def k18m0 : Method := { name := "<init>", desc := "()V", sig := { parameters := [], returnType := none }, accessFlags := 2, code := none }
def k18c1 : Code := { maxStack := 3, maxLocals := 4, code := jdk_48_method_27_code, exceptionTable := #[], attributes := #[] }
def k18m1 : Method := { name := "newLength", desc := "(III)I", sig := { parameters := [.int, .int, .int], returnType := some .int }, accessFlags := 9, code := some k18c1 }
/-- jdk/internal/util/ArraysSupport -/
def k18 : Class := { plain "jdk/internal/util/ArraysSupport" (some 0) with
  accessFlags := 33
  interfaces := #[]
  cf := some (fileOf pool18 21 #[] #[{ accessFlags := 2, nameIndex := 9, descriptorIndex := 19, attributes := #[] }, { accessFlags := 9, nameIndex := 351, descriptorIndex := 352, attributes := #[] }] 33 16 #[] #[{ accessFlags := 24, nameIndex := 28, descriptorIndex := 29, attributes := #[] }, { accessFlags := 26, nameIndex := 38, descriptorIndex := 39, attributes := #[] }, { accessFlags := 25, nameIndex := 121, descriptorIndex := 25, attributes := #[] }, { accessFlags := 25, nameIndex := 131, descriptorIndex := 25, attributes := #[] }, { accessFlags := 25, nameIndex := 137, descriptorIndex := 25, attributes := #[] }, { accessFlags := 25, nameIndex := 143, descriptorIndex := 25, attributes := #[] }, { accessFlags := 25, nameIndex := 53, descriptorIndex := 25, attributes := #[] }, { accessFlags := 25, nameIndex := 24, descriptorIndex := 25, attributes := #[] }, { accessFlags := 25, nameIndex := 162, descriptorIndex := 25, attributes := #[] }, { accessFlags := 25, nameIndex := 187, descriptorIndex := 25, attributes := #[] }, { accessFlags := 26, nameIndex := 48, descriptorIndex := 25, attributes := #[] }, { accessFlags := 25, nameIndex := 277, descriptorIndex := 25, attributes := #[] }, { accessFlags := 25, nameIndex := 280, descriptorIndex := 25, attributes := #[] }, { accessFlags := 25, nameIndex := 282, descriptorIndex := 25, attributes := #[] }, { accessFlags := 25, nameIndex := 284, descriptorIndex := 25, attributes := #[] }, { accessFlags := 25, nameIndex := 286, descriptorIndex := 25, attributes := #[] }, { accessFlags := 25, nameIndex := 288, descriptorIndex := 25, attributes := #[] }, { accessFlags := 25, nameIndex := 290, descriptorIndex := 25, attributes := #[] }, { accessFlags := 25, nameIndex := 292, descriptorIndex := 25, attributes := #[] }, { accessFlags := 26, nameIndex := 108, descriptorIndex := 109, attributes := #[] }, { accessFlags := 25, nameIndex := 294, descriptorIndex := 25, attributes := #[] }])
  fields := #[{ name := "U", type := (.object "jdk/internal/misc/Unsafe"), accessFlags := 24, slot := 0, constantValue := 0 }, { name := "BIG_ENDIAN", type := .boolean, accessFlags := 26, slot := 1, constantValue := 0 }, { name := "LOG2_ARRAY_BOOLEAN_INDEX_SCALE", type := .int, accessFlags := 25, slot := 2, constantValue := 0 }, { name := "LOG2_ARRAY_BYTE_INDEX_SCALE", type := .int, accessFlags := 25, slot := 3, constantValue := 0 }, { name := "LOG2_ARRAY_CHAR_INDEX_SCALE", type := .int, accessFlags := 25, slot := 4, constantValue := 0 }, { name := "LOG2_ARRAY_SHORT_INDEX_SCALE", type := .int, accessFlags := 25, slot := 5, constantValue := 0 }, { name := "LOG2_ARRAY_INT_INDEX_SCALE", type := .int, accessFlags := 25, slot := 6, constantValue := 0 }, { name := "LOG2_ARRAY_LONG_INDEX_SCALE", type := .int, accessFlags := 25, slot := 7, constantValue := 0 }, { name := "LOG2_ARRAY_FLOAT_INDEX_SCALE", type := .int, accessFlags := 25, slot := 8, constantValue := 0 }, { name := "LOG2_ARRAY_DOUBLE_INDEX_SCALE", type := .int, accessFlags := 25, slot := 9, constantValue := 0 }, { name := "LOG2_BYTE_BIT_SIZE", type := .int, accessFlags := 26, slot := 10, constantValue := 0 }, { name := "T_BOOLEAN", type := .int, accessFlags := 25, slot := 11, constantValue := 0 }, { name := "T_CHAR", type := .int, accessFlags := 25, slot := 12, constantValue := 0 }, { name := "T_FLOAT", type := .int, accessFlags := 25, slot := 13, constantValue := 0 }, { name := "T_DOUBLE", type := .int, accessFlags := 25, slot := 14, constantValue := 0 }, { name := "T_BYTE", type := .int, accessFlags := 25, slot := 15, constantValue := 0 }, { name := "T_SHORT", type := .int, accessFlags := 25, slot := 16, constantValue := 0 }, { name := "T_INT", type := .int, accessFlags := 25, slot := 17, constantValue := 0 }, { name := "T_LONG", type := .int, accessFlags := 25, slot := 18, constantValue := 0 }, { name := "JLA", type := (.object "jdk/internal/access/JavaLangAccess"), accessFlags := 26, slot := 19, constantValue := 0 }, { name := "SOFT_MAX_ARRAY_LENGTH", type := .int, accessFlags := 25, slot := 20, constantValue := 0 }]
  methods := #[k18m0, k18m1]
  instanceTypes := #[]
  staticTypes := #[(.object "jdk/internal/misc/Unsafe"), .boolean, .int, .int, .int, .int, .int, .int, .int, .int, .int, .int, .int, .int, .int, .int, .int, .int, .int, (.object "jdk/internal/access/JavaLangAccess"), .int]
  resolved := Array.replicate 378 none
  statics := none }

def pool19 : Array CpInfo := pool [(1, .class_ 2), (0, u "java/lang/Math"), (1, .class_ 6), (1, u "java/lang/Object"), (0, u "<init>"), (0, u "()V"), (89, .class_ 100), (1, u "java/lang/Math$RandomNumberGeneratorHolder"), (71, u "negativeZeroFloatBits"), (0, u "J"), (2, u "negativeZeroDoubleBits"), (21, u "max"), (2, u "min"), (43, u "$assertionsDisabled"), (0, u "Z"), (88, u "(II)I"), (2, u "twoToTheDoubleScaleDown"), (0, u "D"), (4, u "twoToTheDoubleScaleUp"), (9, u "E"), (3, u "PI"), (2, u "TAU"), (2, u "DEGREES_TO_RADIANS"), (0, u "RADIANS_TO_DEGREES")] 94

def k19m0 : Method := { name := "<init>", desc := "()V", sig := { parameters := [], returnType := none }, accessFlags := 2, code := none }
def k19c1 : Code := { maxStack := 2, maxLocals := 2, code := jdk_29_method_65_code, exceptionTable := #[], attributes := #[] }
def k19m1 : Method := { name := "max", desc := "(II)I", sig := { parameters := [.int, .int], returnType := some .int }, accessFlags := 9, code := some k19c1 }
def k19c2 : Code := { maxStack := 2, maxLocals := 2, code := jdk_29_method_69_code, exceptionTable := #[], attributes := #[] }
def k19m2 : Method := { name := "min", desc := "(II)I", sig := { parameters := [.int, .int], returnType := some .int }, accessFlags := 9, code := some k19c2 }
/-- java/lang/Math -/
def k19 : Class := { plain "java/lang/Math" (some 0) with
  accessFlags := 49
  interfaces := #[]
  cf := some (fileOf pool19 1 #[.nestMembers #[98]] #[{ accessFlags := 2, nameIndex := 7, descriptorIndex := 8, attributes := #[] }, { accessFlags := 9, nameIndex := 198, descriptorIndex := 335, attributes := #[] }, { accessFlags := 9, nameIndex := 201, descriptorIndex := 335, attributes := #[] }] 49 4 #[] #[{ accessFlags := 25, nameIndex := 354, descriptorIndex := 339, attributes := #[] }, { accessFlags := 25, nameIndex := 358, descriptorIndex := 339, attributes := #[] }, { accessFlags := 25, nameIndex := 361, descriptorIndex := 339, attributes := #[] }, { accessFlags := 26, nameIndex := 364, descriptorIndex := 339, attributes := #[] }, { accessFlags := 26, nameIndex := 365, descriptorIndex := 339, attributes := #[] }, { accessFlags := 26, nameIndex := 172, descriptorIndex := 173, attributes := #[] }, { accessFlags := 26, nameIndex := 176, descriptorIndex := 173, attributes := #[] }, { accessFlags := 8, nameIndex := 344, descriptorIndex := 339, attributes := #[] }, { accessFlags := 8, nameIndex := 338, descriptorIndex := 339, attributes := #[] }, { accessFlags := 4120, nameIndex := 245, descriptorIndex := 246, attributes := #[] }])
  fields := #[{ name := "E", type := .double, accessFlags := 25, slot := 0, constantValue := 0 }, { name := "PI", type := .double, accessFlags := 25, slot := 1, constantValue := 0 }, { name := "TAU", type := .double, accessFlags := 25, slot := 2, constantValue := 0 }, { name := "DEGREES_TO_RADIANS", type := .double, accessFlags := 26, slot := 3, constantValue := 0 }, { name := "RADIANS_TO_DEGREES", type := .double, accessFlags := 26, slot := 4, constantValue := 0 }, { name := "negativeZeroFloatBits", type := .long, accessFlags := 26, slot := 5, constantValue := 0 }, { name := "negativeZeroDoubleBits", type := .long, accessFlags := 26, slot := 6, constantValue := 0 }, { name := "twoToTheDoubleScaleUp", type := .double, accessFlags := 8, slot := 7, constantValue := 0 }, { name := "twoToTheDoubleScaleDown", type := .double, accessFlags := 8, slot := 8, constantValue := 0 }, { name := "$assertionsDisabled", type := .boolean, accessFlags := 4120, slot := 9, constantValue := 0 }]
  methods := #[k19m0, k19m1, k19m2]
  instanceTypes := #[]
  staticTypes := #[.double, .double, .double, .double, .double, .long, .long, .double, .double, .boolean]
  resolved := Array.replicate 460 none
  statics := none }

def pool20 : Array CpInfo := pool [(2, .class_ 4), (1, u "java/lang/Object"), (0, u "<init>"), (0, u "()V"), (7, .class_ 16), (1, u "java/util/Arrays"), (57, .class_ 76), (1, u "java/util/Arrays$NaturalOrder"), (32, u "()Ljava/lang/Object;"), (3, .class_ 115), (1, u "java/util/Arrays$LegacyMergeSort"), (1, u "Z"), (10, .nameAndType 129 109), (0, u "clone"), (9, u "copyOfRange"), (10, .methodref 151 152), (0, .class_ 153), (0, .nameAndType 154 155), (0, u "java/lang/System"), (0, u "arraycopy"), (0, u "(Ljava/lang/Object;ILjava/lang/Object;II)V"), (146, u "copyOf"), (1, .methodref 305 306), (0, .class_ 307), (0, .nameAndType 308 309), (0, u "java/lang/Math"), (0, u "min"), (0, u "(II)I"), (0, .methodref 311 128), (0, .class_ 312), (0, u "[B"), (29, u "([BII)[B"), (32, .class_ 376), (0, u "java/util/Arrays$ArrayList"), (68, u "$assertionsDisabled"), (269, u "MIN_ARRAY_SORT_GRAN"), (0, u "I"), (2, u "INSERTIONSORT_THRESHOLD"), (149, u "([BI)[B"), (105, .class_ 976), (0, u "java/util/Arrays$ArrayItr")] 52

def k20m0 : Method := { name := "<init>", desc := "()V", sig := { parameters := [], returnType := none }, accessFlags := 2, code := none }
def k20c1 : Code := { maxStack := 6, maxLocals := 3, code := jdk_65_method_121_code, exceptionTable := #[], attributes := #[] }
def k20m1 : Method := { name := "copyOf", desc := "([BI)[B", sig := { parameters := [(.array .byte), .int], returnType := some (.array .byte) }, accessFlags := 9, code := some k20c1 }
def k20c2 : Code := { maxStack := 3, maxLocals := 3, code := jdk_65_method_132_code, exceptionTable := #[], attributes := #[] }
def k20m2 : Method := { name := "copyOfRange", desc := "([BII)[B", sig := { parameters := [(.array .byte), .int, .int], returnType := some (.array .byte) }, accessFlags := 9, code := some k20c2 }
/-- java/util/Arrays -/
def k20 : Class := { plain "java/util/Arrays" (some 0) with
  accessFlags := 49
  interfaces := #[]
  cf := some (fileOf pool20 14 #[.nestMembers #[975, 375, 113, 74]] #[{ accessFlags := 2, nameIndex := 5, descriptorIndex := 6, attributes := #[] }, { accessFlags := 9, nameIndex := 302, descriptorIndex := 869, attributes := #[] }, { accessFlags := 9, nameIndex := 139, descriptorIndex := 342, attributes := #[] }] 49 2 #[] #[{ accessFlags := 26, nameIndex := 715, descriptorIndex := 716, attributes := #[] }, { accessFlags := 26, nameIndex := 719, descriptorIndex := 716, attributes := #[] }, { accessFlags := 4120, nameIndex := 445, descriptorIndex := 117, attributes := #[] }])
  fields := #[{ name := "MIN_ARRAY_SORT_GRAN", type := .int, accessFlags := 26, slot := 0, constantValue := 0 }, { name := "INSERTIONSORT_THRESHOLD", type := .int, accessFlags := 26, slot := 1, constantValue := 0 }, { name := "$assertionsDisabled", type := .boolean, accessFlags := 4120, slot := 2, constantValue := 0 }]
  methods := #[k20m0, k20m1, k20m2]
  instanceTypes := #[]
  staticTypes := #[.int, .int, .boolean]
  resolved := Array.replicate 1029 none
  statics := none }

def pool21 : Array CpInfo := pool [(1, .class_ 2), (0, u "java/lang/Cloneable"), (0, .class_ 4), (0, u "java/lang/Object")] 2

/-- java/lang/Cloneable -/
def k21 : Class := { plain "java/lang/Cloneable" (some 0) with
  accessFlags := 1537
  interfaces := #[]
  cf := some (fileOf pool21 1 #[] #[] 1537 3 #[] #[])
  fields := #[]
  methods := #[]
  instanceTypes := #[]
  staticTypes := #[]
  resolved := Array.replicate 7 none
  statics := none }

def pool22 : Array CpInfo := pool [(4, .class_ 6), (1, u "java/lang/Object"), (0, u "<init>"), (0, u "()V"), (5, .class_ 16), (1, u "java/lang/StringLatin1"), (0, u "inflate"), (2, .class_ 22), (1, u "java/lang/StringUTF16"), (3, .nameAndType 17 27), (0, u "([BI[BII)V"), (62, u "canEncode"), (14, u "(C)Z"), (15, u "$assertionsDisabled"), (0, u "Z"), (98, .class_ 223), (1, u "java/lang/StringLatin1$LinesSpliterator"), (16, .methodref 20 26), (40, u "equals"), (0, u "([B[B)Z"), (97, u "toBytes"), (1, u "(C)[B"), (7, .class_ 391), (0, u "java/lang/StringLatin1$CharsSpliterator")] 3

def k22m0 : Method := { name := "<init>", desc := "()V", sig := { parameters := [], returnType := none }, accessFlags := 0, code := none }
def k22c1 : Code := { maxStack := 2, maxLocals := 1, code := jdk_43_method_3_code, exceptionTable := #[], attributes := #[] }
def k22m1 : Method := { name := "canEncode", desc := "(C)Z", sig := { parameters := [.char], returnType := some .boolean }, accessFlags := 9, code := some k22c1 }
def k22c2 : Code := { maxStack := 3, maxLocals := 3, code := jdk_43_method_13_code, exceptionTable := #[], attributes := #[] }
def k22m2 : Method := { name := "equals", desc := "([B[B)Z", sig := { parameters := [(.array .byte), (.array .byte)], returnType := some .boolean }, accessFlags := 9, code := some k22c2 }
def k22c3 : Code := { maxStack := 4, maxLocals := 1, code := jdk_43_method_46_code, exceptionTable := #[], attributes := #[] }
def k22m3 : Method := { name := "toBytes", desc := "(C)[B", sig := { parameters := [.char], returnType := some (.array .byte) }, accessFlags := 9, code := some k22c3 }
def k22c4 : Code := { maxStack := 5, maxLocals := 5, code := jdk_43_method_50_code, exceptionTable := #[], attributes := #[] }
def k22m4 : Method := { name := "inflate", desc := "([BI[BII)V", sig := { parameters := [(.array .byte), .int, (.array .byte), .int, .int], returnType := none }, accessFlags := 9, code := some k22c4 }
/-- java/lang/StringLatin1 -/
def k22 : Class := { plain "java/lang/StringLatin1" (some 0) with
  accessFlags := 48
  interfaces := #[]
  cf := some (fileOf pool22 14 #[.nestMembers #[390, 221]] #[{ accessFlags := 0, nameIndex := 7, descriptorIndex := 8, attributes := #[] }, { accessFlags := 9, nameIndex := 90, descriptorIndex := 105, attributes := #[] }, { accessFlags := 9, nameIndex := 281, descriptorIndex := 282, attributes := #[] }, { accessFlags := 9, nameIndex := 380, descriptorIndex := 382, attributes := #[] }, { accessFlags := 9, nameIndex := 17, descriptorIndex := 27, attributes := #[] }] 48 4 #[] #[{ accessFlags := 4120, nameIndex := 121, descriptorIndex := 122, attributes := #[] }])
  fields := #[{ name := "$assertionsDisabled", type := .boolean, accessFlags := 4120, slot := 0, constantValue := 0 }]
  methods := #[k22m0, k22m1, k22m2, k22m3, k22m4]
  instanceTypes := #[]
  staticTypes := #[.boolean]
  resolved := Array.replicate 395 none
  statics := none }

def pool23 : Array CpInfo := pool [(3, .class_ 4), (0, u "java/lang/String"), (1, .class_ 8), (1, u "java/lang/Object"), (0, u "<init>"), (0, u "()V"), (0, .methodref 12 13), (0, .class_ 14), (0, .nameAndType 15 16), (0, u "java/lang/StringUTF16"), (0, u "newBytesLength"), (0, u "(I)I"), (3, .integer 1073741823), (23, .fieldref 12 45), (0, .nameAndType 46 47), (0, u "$assertionsDisabled"), (0, u "Z"), (0, .methodref 12 49), (0, .nameAndType 50 51), (0, u "length"), (0, u "([B)I"), (7, .fieldref 12 60), (0, .nameAndType 61 62), (0, u "HI_BYTE_SHIFT"), (0, u "I"), (0, .fieldref 12 64), (0, .nameAndType 65 62), (0, u "LO_BYTE_SHIFT"), (5, .methodref 12 72), (0, .nameAndType 73 74), (0, u "getChar"), (0, u "([BI)C"), (24, u "(II[B)V"), (7, .methodref 12 108), (0, .nameAndType 109 110), (0, u "newBytesFor"), (0, u "(I)[B"), (0, .methodref 12 112), (0, .nameAndType 113 114), (0, u "putChar"), (0, u "([BII)V"), (0, .methodref 12 116), (0, .nameAndType 117 118), (0, u "compress"), (0, u "([CI[BII)I"), (0, .methodref 12 120), (0, .nameAndType 121 122), (0, u "toBytes"), (0, u "([CII)[B"), (17, u "inflate"), (0, u "([BI[BII)V"), (31, .methodref 12 174), (0, .nameAndType 175 99), (0, u "checkBoundsOffCount"), (85, u "coderFromArrayLen"), (0, u "([BI)B"), (18, u "(III)I"), (87, .class_ 371), (1, u "java/lang/StringUTF16$LinesSpliterator"), (47, .methodref 3 420), (0, .nameAndType 175 281), (9, u "MAX_LENGTH"), (44, u "(C)[B"), (151, .class_ 628), (0, u "java/lang/StringUTF16$CodePointsSpliterator"), (0, .class_ 630), (0, u "java/lang/StringUTF16$CharsSpliterator")] 4

def k23m0 : Method := { name := "<init>", desc := "()V", sig := { parameters := [], returnType := none }, accessFlags := 0, code := none }
def k23c1 : Code := { maxStack := 1, maxLocals := 1, code := jdk_52_method_2_code, exceptionTable := #[], attributes := #[] }
def k23m1 : Method := { name := "newBytesFor", desc := "(I)[B", sig := { parameters := [.int], returnType := some (.array .byte) }, accessFlags := 9, code := some k23c1 }
def k23c2 : Code := { maxStack := 4, maxLocals := 1, code := jdk_52_method_3_code, exceptionTable := #[], attributes := #[] }
def k23m2 : Method := { name := "newBytesLength", desc := "(I)I", sig := { parameters := [.int], returnType := some .int }, accessFlags := 9, code := some k23c2 }
def k23c3 : Code := { maxStack := 4, maxLocals := 3, code := jdk_52_method_4_code, exceptionTable := #[], attributes := #[] }
def k23m3 : Method := { name := "putChar", desc := "([BII)V", sig := { parameters := [(.array .byte), .int, .int], returnType := none }, accessFlags := 8, code := some k23c3 }
def k23c4 : Code := { maxStack := 3, maxLocals := 2, code := jdk_52_method_5_code, exceptionTable := #[], attributes := #[] }
def k23m4 : Method := { name := "getChar", desc := "([BI)C", sig := { parameters := [(.array .byte), .int], returnType := some .char }, accessFlags := 8, code := some k23c4 }
def k23c5 : Code := { maxStack := 2, maxLocals := 1, code := jdk_52_method_6_code, exceptionTable := #[], attributes := #[] }
def k23m5 : Method := { name := "length", desc := "([B)I", sig := { parameters := [(.array .byte)], returnType := some .int }, accessFlags := 9, code := some k23c5 }
def k23c6 : Code := { maxStack := 4, maxLocals := 5, code := jdk_52_method_14_code, exceptionTable := #[], attributes := #[] }
def k23m6 : Method := { name := "toBytes", desc := "([CII)[B", sig := { parameters := [(.array .char), .int, .int], returnType := some (.array .byte) }, accessFlags := 9, code := some k23c6 }
def k23c7 : Code := { maxStack := 2, maxLocals := 2, code := jdk_52_method_15_code, exceptionTable := #[], attributes := #[] }
def k23m7 : Method := { name := "coderFromArrayLen", desc := "([BI)B", sig := { parameters := [(.array .byte), .int], returnType := some .byte }, accessFlags := 8, code := some k23c7 }
def k23c8 : Code := { maxStack := 5, maxLocals := 6, code := jdk_52_method_16_code, exceptionTable := #[], attributes := #[] }
def k23m8 : Method := { name := "compress", desc := "([CII)[B", sig := { parameters := [(.array .char), .int, .int], returnType := some (.array .byte) }, accessFlags := 9, code := some k23c8 }
def k23c9 : Code := { maxStack := 3, maxLocals := 7, code := jdk_52_method_21_code, exceptionTable := #[], attributes := #[] }
def k23m9 : Method := { name := "compress", desc := "([CI[BII)I", sig := { parameters := [(.array .char), .int, (.array .byte), .int, .int], returnType := some .int }, accessFlags := 9, code := some k23c9 }
def k23c10 : Code := { maxStack := 3, maxLocals := 2, code := jdk_52_method_24_code, exceptionTable := #[], attributes := #[] }
def k23m10 : Method := { name := "toBytes", desc := "(C)[B", sig := { parameters := [.char], returnType := some (.array .byte) }, accessFlags := 9, code := some k23c10 }
def k23c11 : Code := { maxStack := 4, maxLocals := 6, code := jdk_52_method_86_code, exceptionTable := #[], attributes := #[] }
def k23m11 : Method := { name := "inflate", desc := "([BI[BII)V", sig := { parameters := [(.array .byte), .int, (.array .byte), .int, .int], returnType := none }, accessFlags := 9, code := some k23c11 }
def k23c12 : Code := { maxStack := 3, maxLocals := 3, code := jdk_52_method_94_code, exceptionTable := #[], attributes := #[] }
def k23m12 : Method := { name := "checkBoundsOffCount", desc := "(II[B)V", sig := { parameters := [.int, .int, (.array .byte)], returnType := none }, accessFlags := 9, code := some k23c12 }
/-- java/lang/StringUTF16 -/
def k23 : Class := { plain "java/lang/StringUTF16" (some 0) with
  accessFlags := 48
  interfaces := #[]
  cf := some (fileOf pool23 12 #[.nestMembers #[627, 629, 369]] #[{ accessFlags := 0, nameIndex := 9, descriptorIndex := 10, attributes := #[] }, { accessFlags := 9, nameIndex := 109, descriptorIndex := 110, attributes := #[] }, { accessFlags := 9, nameIndex := 15, descriptorIndex := 16, attributes := #[] }, { accessFlags := 8, nameIndex := 113, descriptorIndex := 114, attributes := #[] }, { accessFlags := 8, nameIndex := 73, descriptorIndex := 74, attributes := #[] }, { accessFlags := 9, nameIndex := 50, descriptorIndex := 51, attributes := #[] }, { accessFlags := 9, nameIndex := 121, descriptorIndex := 122, attributes := #[] }, { accessFlags := 8, nameIndex := 261, descriptorIndex := 262, attributes := #[] }, { accessFlags := 9, nameIndex := 117, descriptorIndex := 122, attributes := #[] }, { accessFlags := 9, nameIndex := 117, descriptorIndex := 118, attributes := #[] }, { accessFlags := 9, nameIndex := 121, descriptorIndex := 475, attributes := #[] }, { accessFlags := 9, nameIndex := 140, descriptorIndex := 141, attributes := #[] }, { accessFlags := 9, nameIndex := 175, descriptorIndex := 99, attributes := #[] }] 48 6 #[] #[{ accessFlags := 26, nameIndex := 61, descriptorIndex := 62, attributes := #[] }, { accessFlags := 26, nameIndex := 65, descriptorIndex := 62, attributes := #[] }, { accessFlags := 24, nameIndex := 430, descriptorIndex := 62, attributes := #[] }, { accessFlags := 4120, nameIndex := 46, descriptorIndex := 47, attributes := #[] }])
  fields := #[{ name := "HI_BYTE_SHIFT", type := .int, accessFlags := 26, slot := 0, constantValue := 0 }, { name := "LO_BYTE_SHIFT", type := .int, accessFlags := 26, slot := 1, constantValue := 0 }, { name := "MAX_LENGTH", type := .int, accessFlags := 24, slot := 2, constantValue := 0 }, { name := "$assertionsDisabled", type := .boolean, accessFlags := 4120, slot := 3, constantValue := 0 }]
  methods := #[k23m0, k23m1, k23m2, k23m3, k23m4, k23m5, k23m6, k23m7, k23m8, k23m9, k23m10, k23m11, k23m12]
  instanceTypes := #[]
  staticTypes := #[.int, .int, .int, .boolean]
  resolved := Array.replicate 635 none
  statics := some 2 }

def pool24 : Array CpInfo := pool [(2, .class_ 4), (1, u "java/lang/Object"), (0, u "<init>"), (0, u "()V"), (17, .class_ 26), (1, u "jdk/internal/util/Preconditions"), (22, u "checkFromIndexSize"), (5, .class_ 56), (0, u "jdk/internal/util/Preconditions$4"), (57, .class_ 115), (0, u "jdk/internal/util/Preconditions$1"), (7, u "SIOOBE_FORMATTER"), (0, u "Ljava/util/function/BiFunction;"), (0, .class_ 126), (0, u "jdk/internal/util/Preconditions$2"), (3, u "AIOOBE_FORMATTER"), (0, .class_ 132), (0, u "jdk/internal/util/Preconditions$3"), (3, u "IOOBE_FORMATTER"), (46, u "(IIILjava/util/function/BiFunction;)I")] 10

def k24m0 : Method := { name := "<init>", desc := "()V", sig := { parameters := [], returnType := none }, accessFlags := 1, code := none }
def k24c1 : Code := { maxStack := 4, maxLocals := 4, code := jdk_41_method_13_code, exceptionTable := #[], attributes := #[] }
def k24m1 : Method := { name := "checkFromIndexSize", desc := "(IIILjava/util/function/BiFunction;)I", sig := { parameters := [.int, .int, .int, (.object "java/util/function/BiFunction")], returnType := some .int }, accessFlags := 9, code := some k24c1 }
/-- jdk/internal/util/Preconditions -/
def k24 : Class := { plain "jdk/internal/util/Preconditions" (some 0) with
  accessFlags := 33
  interfaces := #[]
  cf := some (fileOf pool24 24 #[.nestMembers #[55, 131, 125, 114]] #[{ accessFlags := 1, nameIndex := 5, descriptorIndex := 6, attributes := #[] }, { accessFlags := 9, nameIndex := 49, descriptorIndex := 183, attributes := #[] }] 33 2 #[] #[{ accessFlags := 25, nameIndex := 123, descriptorIndex := 124, attributes := #[] }, { accessFlags := 25, nameIndex := 130, descriptorIndex := 124, attributes := #[] }, { accessFlags := 25, nameIndex := 136, descriptorIndex := 124, attributes := #[] }])
  fields := #[{ name := "SIOOBE_FORMATTER", type := (.object "java/util/function/BiFunction"), accessFlags := 25, slot := 0, constantValue := 0 }, { name := "AIOOBE_FORMATTER", type := (.object "java/util/function/BiFunction"), accessFlags := 25, slot := 1, constantValue := 0 }, { name := "IOOBE_FORMATTER", type := (.object "java/util/function/BiFunction"), accessFlags := 25, slot := 2, constantValue := 0 }]
  methods := #[k24m0, k24m1]
  instanceTypes := #[]
  staticTypes := #[(.object "java/util/function/BiFunction"), (.object "java/util/function/BiFunction"), (.object "java/util/function/BiFunction")]
  resolved := Array.replicate 194 none
  statics := some 3 }

def pool25 : Array CpInfo := pool [(2, .class_ 4), (1, u "java/lang/Object"), (0, u "<init>"), (0, u "()V"), (12, .class_ 20), (0, u "java/util/Collections"), (63, u "r"), (0, u "Ljava/util/Random;"), (80, .class_ 167), (0, u "java/util/Collections$UnmodifiableCollection"), (6, .class_ 175), (0, u "java/util/Collections$UnmodifiableSequencedCollection"), (6, .class_ 183), (0, u "java/util/Collections$UnmodifiableSet"), (6, .class_ 191), (0, u "java/util/Collections$UnmodifiableSequencedSet"), (6, .class_ 199), (0, u "java/util/Collections$UnmodifiableSortedSet"), (6, .class_ 207), (0, u "java/util/Collections$UnmodifiableNavigableSet"), (4, .class_ 213), (0, u "java/util/Collections$UnmodifiableList"), (1, .class_ 216), (0, u "java/util/Collections$UnmodifiableRandomAccessList"), (6, .class_ 224), (0, u "java/util/Collections$UnmodifiableMap"), (6, .class_ 232), (0, u "java/util/Collections$UnmodifiableSequencedMap"), (4, .class_ 238), (0, u "java/util/Collections$UnmodifiableSortedMap"), (6, .class_ 246), (0, u "java/util/Collections$UnmodifiableNavigableMap"), (3, .class_ 251), (0, u "java/util/Collections$SynchronizedCollection"), (4, .class_ 257), (0, u "java/util/Collections$SynchronizedSet"), (4, .class_ 263), (0, u "java/util/Collections$SynchronizedSortedSet"), (1, .class_ 266), (0, u "java/util/Collections$SynchronizedNavigableSet"), (1, .class_ 269), (0, u "java/util/Collections$SynchronizedRandomAccessList"), (1, .class_ 272), (0, u "java/util/Collections$SynchronizedList"), (5, .class_ 279), (0, u "java/util/Collections$SynchronizedMap"), (1, .class_ 282), (0, u "java/util/Collections$SynchronizedSortedMap"), (1, .class_ 285), (0, u "java/util/Collections$SynchronizedNavigableMap"), (1, .class_ 288), (0, u "java/util/Collections$CheckedCollection"), (11, .class_ 301), (0, u "java/util/Collections$CheckedQueue"), (3, .class_ 306), (0, u "java/util/Collections$CheckedSet"), (3, .class_ 311), (0, u "java/util/Collections$CheckedSortedSet"), (3, .class_ 316), (0, u "java/util/Collections$CheckedNavigableSet"), (3, .class_ 321), (0, u "java/util/Collections$CheckedRandomAccessList"), (3, .class_ 326), (0, u "java/util/Collections$CheckedList"), (1, .class_ 329), (0, u "java/util/Collections$CheckedMap"), (3, .class_ 334), (0, u "java/util/Collections$CheckedSortedMap"), (3, .class_ 339), (0, u "java/util/Collections$CheckedNavigableMap"), (4, .class_ 346), (1, u "java/util/Collections$EmptyIterator"), (3, .class_ 352), (1, u "java/util/Collections$EmptyListIterator"), (2, .class_ 357), (1, u "java/util/Collections$EmptyEnumeration"), (4, u "EMPTY_SET"), (0, u "Ljava/util/Set;"), (6, u "EMPTY_LIST"), (0, u "Ljava/util/List;"), (2, u "EMPTY_MAP"), (0, u "Ljava/util/Map;"), (4, .class_ 381), (0, u "java/util/Collections$SingletonSet"), (2, .class_ 385), (0, u "java/util/Collections$1"), (1, .class_ 388), (0, u "java/util/Collections$2"), (1, .class_ 391), (0, u "java/util/Collections$SingletonList"), (1, .class_ 394), (0, u "java/util/Collections$SingletonMap"), (22, .class_ 418), (0, u "java/util/Collections$CopiesList"), (4, .class_ 425), (1, u "java/util/Collections$ReverseComparator"), (8, .class_ 435), (0, u "java/util/Collections$ReverseComparator2"), (6, .class_ 443), (0, u "java/util/Collections$3"), (25, .class_ 470), (0, u "java/util/Collections$SetFromMap"), (2, .class_ 474), (0, u "java/util/Collections$SequencedSetFromMap"), (3, .class_ 479), (0, u "java/util/Collections$AsLIFOQueue"), (11, .class_ 492), (0, u "java/util/Collections$EmptySet"), (1, .class_ 495), (0, u "java/util/Collections$EmptyList"), (1, .class_ 498), (0, u "java/util/Collections$EmptyMap"), (1, u "BINARYSEARCH_THRESHOLD"), (0, u "I"), (2, u "REVERSE_THRESHOLD"), (1, u "SHUFFLE_THRESHOLD"), (1, u "FILL_THRESHOLD"), (1, u "ROTATE_THRESHOLD"), (1, u "COPY_THRESHOLD"), (1, u "REPLACEALL_THRESHOLD"), (1, u "INDEXOFSUBLIST_THRESHOLD"), (333, .class_ 851), (0, u "java/util/Collections$CheckedMap$CheckedEntrySet"), (0, .class_ 853), (0, u "java/util/Collections$CheckedMap$CheckedEntrySet$CheckedEntry"), (0, .class_ 855), (0, u "java/util/Collections$CheckedMap$CheckedEntrySet$1"), (0, .class_ 857), (0, u "java/util/Collections$CheckedList$1"), (0, .class_ 859), (0, u "java/util/Collections$CheckedCollection$1"), (0, .class_ 861), (0, u "java/util/Collections$UnmodifiableNavigableMap$EmptyNavigableMap"), (0, .class_ 863), (0, u "java/util/Collections$UnmodifiableMap$UnmodifiableEntrySet"), (0, .class_ 865), (0, u "java/util/Collections$UnmodifiableMap$UnmodifiableEntrySet$UnmodifiableEntry"), (0, .class_ 867), (0, u "java/util/Collections$UnmodifiableMap$UnmodifiableEntrySet$UnmodifiableEntrySetSpliterator"), (0, .class_ 869), (0, u "java/util/Collections$UnmodifiableMap$UnmodifiableEntrySet$1"), (0, .class_ 871), (0, u "java/util/Collections$UnmodifiableList$1"), (0, .class_ 873), (0, u "java/util/Collections$UnmodifiableNavigableSet$EmptyNavigableSet"), (0, .class_ 875), (0, u "java/util/Collections$UnmodifiableCollection$1")] 57

def k25m0 : Method := { name := "<init>", desc := "()V", sig := { parameters := [], returnType := none }, accessFlags := 2, code := none }
/-- java/util/Collections -/
def k25 : Class := { plain "java/util/Collections" (some 0) with
  accessFlags := 33
  interfaces := #[]
  cf := some (fileOf pool25 19 #[.nestMembers #[478, 473, 469, 434, 423, 417, 393, 390, 380, 497, 494, 491, 355, 350, 344, 338, 333, 328, 850, 852, 854, 320, 325, 856, 315, 310, 305, 300, 287, 858, 284, 281, 278, 268, 271, 265, 262, 256, 250, 245, 860, 237, 231, 223, 862, 864, 866, 868, 215, 212, 870, 206, 872, 198, 190, 182, 174, 166, 874, 442, 387, 384]] #[{ accessFlags := 2, nameIndex := 5, descriptorIndex := 6, attributes := #[] }] 33 2 #[] #[{ accessFlags := 26, nameIndex := 500, descriptorIndex := 501, attributes := #[] }, { accessFlags := 26, nameIndex := 504, descriptorIndex := 501, attributes := #[] }, { accessFlags := 26, nameIndex := 506, descriptorIndex := 501, attributes := #[] }, { accessFlags := 26, nameIndex := 508, descriptorIndex := 501, attributes := #[] }, { accessFlags := 26, nameIndex := 510, descriptorIndex := 501, attributes := #[] }, { accessFlags := 26, nameIndex := 512, descriptorIndex := 501, attributes := #[] }, { accessFlags := 26, nameIndex := 514, descriptorIndex := 501, attributes := #[] }, { accessFlags := 26, nameIndex := 516, descriptorIndex := 501, attributes := #[] }, { accessFlags := 10, nameIndex := 84, descriptorIndex := 85, attributes := #[] }, { accessFlags := 25, nameIndex := 362, descriptorIndex := 363, attributes := #[] }, { accessFlags := 25, nameIndex := 370, descriptorIndex := 371, attributes := #[] }, { accessFlags := 25, nameIndex := 374, descriptorIndex := 375, attributes := #[] }])
  fields := #[{ name := "BINARYSEARCH_THRESHOLD", type := .int, accessFlags := 26, slot := 0, constantValue := 0 }, { name := "REVERSE_THRESHOLD", type := .int, accessFlags := 26, slot := 1, constantValue := 0 }, { name := "SHUFFLE_THRESHOLD", type := .int, accessFlags := 26, slot := 2, constantValue := 0 }, { name := "FILL_THRESHOLD", type := .int, accessFlags := 26, slot := 3, constantValue := 0 }, { name := "ROTATE_THRESHOLD", type := .int, accessFlags := 26, slot := 4, constantValue := 0 }, { name := "COPY_THRESHOLD", type := .int, accessFlags := 26, slot := 5, constantValue := 0 }, { name := "REPLACEALL_THRESHOLD", type := .int, accessFlags := 26, slot := 6, constantValue := 0 }, { name := "INDEXOFSUBLIST_THRESHOLD", type := .int, accessFlags := 26, slot := 7, constantValue := 0 }, { name := "r", type := (.object "java/util/Random"), accessFlags := 10, slot := 8, constantValue := 0 }, { name := "EMPTY_SET", type := (.object "java/util/Set"), accessFlags := 25, slot := 9, constantValue := 0 }, { name := "EMPTY_LIST", type := (.object "java/util/List"), accessFlags := 25, slot := 10, constantValue := 0 }, { name := "EMPTY_MAP", type := (.object "java/util/Map"), accessFlags := 25, slot := 11, constantValue := 0 }]
  methods := #[k25m0]
  instanceTypes := #[]
  staticTypes := #[.int, .int, .int, .int, .int, .int, .int, .int, (.object "java/util/Random"), (.object "java/util/Set"), (.object "java/util/List"), (.object "java/util/Map")]
  resolved := Array.replicate 933 none
  statics := some 4 }

def pool26 : Array CpInfo := pool [(8, .class_ 10), (1, u "java/lang/Iterable"), (24, .class_ 36), (0, u "java/lang/Object")] 25

/-- java/lang/Iterable -/
def k26 : Class := { plain "java/lang/Iterable" (some 0) with
  accessFlags := 1537
  interfaces := #[]
  cf := some (fileOf pool26 8 #[] #[] 1537 35 #[] #[])
  fields := #[]
  methods := #[]
  instanceTypes := #[]
  staticTypes := #[]
  resolved := Array.replicate 62 none
  statics := none }

def pool27 : Array CpInfo := pool [(10, .class_ 12), (1, u "java/util/Collection"), (47, .class_ 61), (0, u "java/lang/Object"), (0, .class_ 63), (0, u "java/lang/Iterable")] 51

/-- java/util/Collection -/
def k27 : Class := { plain "java/util/Collection" (some 0) with
  accessFlags := 1537
  interfaces := #[26]
  cf := some (fileOf pool27 10 #[] #[] 1537 60 #[62] #[])
  fields := #[]
  methods := #[]
  instanceTypes := #[]
  staticTypes := #[]
  resolved := Array.replicate 115 none
  statics := none }

def pool28 : Array CpInfo := pool [(2, .class_ 4), (1, u "java/lang/Object"), (0, u "<init>"), (0, u "()V"), (1, .class_ 10), (1, u "java/util/AbstractCollection"), (66, .class_ 78), (0, u "java/util/Collection")] 81

def k28m0 : Method := { name := "<init>", desc := "()V", sig := { parameters := [], returnType := none }, accessFlags := 4, code := none }
/-- java/util/AbstractCollection -/
def k28 : Class := { plain "java/util/AbstractCollection" (some 0) with
  accessFlags := 1057
  interfaces := #[27]
  cf := some (fileOf pool28 8 #[] #[{ accessFlags := 4, nameIndex := 5, descriptorIndex := 6, attributes := #[] }] 1057 2 #[77] #[])
  fields := #[]
  methods := #[k28m0]
  instanceTypes := #[]
  staticTypes := #[]
  resolved := Array.replicate 160 none
  statics := none }

def pool29 : Array CpInfo := pool [(8, .class_ 10), (1, u "java/util/SequencedCollection"), (15, .class_ 27), (0, u "java/lang/Object"), (0, .class_ 29), (0, u "java/util/Collection")] 27

/-- java/util/SequencedCollection -/
def k29 : Class := { plain "java/util/SequencedCollection" (some 0) with
  accessFlags := 1537
  interfaces := #[27]
  cf := some (fileOf pool29 8 #[] #[] 1537 26 #[28] #[])
  fields := #[]
  methods := #[]
  instanceTypes := #[]
  staticTypes := #[]
  resolved := Array.replicate 57 none
  statics := none }

def pool30 : Array CpInfo := pool [(8, .class_ 10), (1, u "java/util/List"), (92, .class_ 104), (0, u "java/lang/Object"), (15, .class_ 121), (0, u "java/util/SequencedCollection")] 129

/-- java/util/List -/
def k30 : Class := { plain "java/util/List" (some 0) with
  accessFlags := 1537
  interfaces := #[29]
  cf := some (fileOf pool30 8 #[] #[] 1537 103 #[120] #[])
  fields := #[]
  methods := #[]
  instanceTypes := #[]
  staticTypes := #[]
  resolved := Array.replicate 251 none
  statics := none }

def pool31 : Array CpInfo := pool [(2, .class_ 4), (1, u "java/util/AbstractCollection"), (0, u "<init>"), (0, u "()V"), (1, .class_ 10), (1, u "java/util/AbstractList"), (0, u "modCount"), (0, u "I"), (64, .class_ 78), (0, u "java/util/AbstractList$Itr"), (3, .class_ 83), (0, u "java/util/AbstractList$ListItr"), (9, .class_ 94), (0, u "java/util/AbstractList$RandomAccessSubList"), (3, .class_ 99), (0, u "java/util/AbstractList$SubList"), (33, .class_ 134), (0, u "java/util/List"), (73, .class_ 209), (0, u "java/util/AbstractList$SubList$1"), (0, .class_ 211), (0, u "java/util/AbstractList$RandomAccessSpliterator")] 6

def k31m0 : Method := { name := "<init>", desc := "()V", sig := { parameters := [], returnType := none }, accessFlags := 4, code := none }
/-- java/util/AbstractList -/
def k31 : Class := { plain "java/util/AbstractList" (some 28) with
  accessFlags := 1057
  interfaces := #[30]
  cf := some (fileOf pool31 8 #[.nestMembers #[93, 98, 208, 210, 82, 77]] #[{ accessFlags := 4, nameIndex := 5, descriptorIndex := 6, attributes := #[] }] 1057 2 #[133] #[{ accessFlags := 132, nameIndex := 11, descriptorIndex := 12, attributes := #[] }])
  fields := #[{ name := "modCount", type := .int, accessFlags := 132, slot := 0, constantValue := 0 }]
  methods := #[k31m0]
  instanceTypes := #[.int]
  staticTypes := #[]
  resolved := Array.replicate 218 none
  statics := none }

def pool32 : Array CpInfo := pool [(1, .class_ 2), (0, u "java/util/RandomAccess"), (0, .class_ 4), (0, u "java/lang/Object")] 2

/-- java/util/RandomAccess -/
def k32 : Class := { plain "java/util/RandomAccess" (some 0) with
  accessFlags := 1537
  interfaces := #[]
  cf := some (fileOf pool32 1 #[] #[] 1537 3 #[] #[])
  fields := #[]
  methods := #[]
  instanceTypes := #[]
  staticTypes := #[]
  resolved := Array.replicate 7 none
  statics := none }

def pool33 : Array CpInfo := pool [(2, .class_ 4), (1, u "java/util/AbstractList"), (0, u "<init>"), (0, u "()V"), (1, .class_ 10), (1, u "java/util/Collections"), (54, .class_ 66), (0, u "java/util/Collections$EmptyList"), (0, .class_ 68), (0, u "java/util/RandomAccess"), (0, .class_ 70), (0, u "java/io/Serializable"), (0, u "serialVersionUID"), (0, u "J")] 77

def k33m0 : Method := { name := "<init>", desc := "()V", sig := { parameters := [], returnType := none }, accessFlags := 2, code := none }
/-- java/util/Collections$EmptyList -/
def k33 : Class := { plain "java/util/Collections$EmptyList" (some 31) with
  accessFlags := 32
  interfaces := #[32, 2]
  cf := some (fileOf pool33 65 #[.nestHost 8] #[{ accessFlags := 2, nameIndex := 5, descriptorIndex := 6, attributes := #[] }] 32 2 #[67, 69] #[{ accessFlags := 26, nameIndex := 71, descriptorIndex := 72, attributes := #[] }])
  fields := #[{ name := "serialVersionUID", type := .long, accessFlags := 26, slot := 0, constantValue := 0 }]
  methods := #[k33m0]
  instanceTypes := #[.int]
  staticTypes := #[.long]
  resolved := Array.replicate 150 none
  statics := none }

def pool34 : Array CpInfo := pool [(2, .class_ 4), (1, u "java/lang/StackTraceElement"), (0, u "<init>"), (2, .class_ 10), (1, u "java/lang/Object"), (0, u "()V"), (2, u "format"), (0, u "B"), (2, u "classLoaderName"), (0, u "Ljava/lang/String;"), (2, u "moduleName"), (2, u "moduleVersion"), (12, u "declaringClass"), (4, u "methodName"), (2, u "fileName"), (2, u "lineNumber"), (0, u "I"), (65, u "declaringClassObject"), (0, u "Ljava/lang/Class;"), (33, .class_ 153), (1, u "java/lang/StackTraceElement$HashedModules"), (17, .class_ 172), (0, u "java/io/Serializable"), (0, u "NATIVE_METHOD"), (1, u "UNKNOWN_SOURCE"), (2, u "BUILTIN_CLASS_LOADER"), (1, u "JDK_NON_UPGRADEABLE_MODULE"), (1, u "serialVersionUID"), (0, u "J")] 51

def k34m0 : Method := { name := "<init>", desc := "()V", sig := { parameters := [], returnType := none }, accessFlags := 2, code := none }
/-- java/lang/StackTraceElement -/
def k34 : Class := { plain "java/lang/StackTraceElement" (some 0) with
  accessFlags := 49
  interfaces := #[2]
  cf := some (fileOf pool34 2 #[.nestMembers #[151]] #[{ accessFlags := 2, nameIndex := 5, descriptorIndex := 11, attributes := #[] }] 49 8 #[171] #[{ accessFlags := 26, nameIndex := 173, descriptorIndex := 19, attributes := #[] }, { accessFlags := 26, nameIndex := 175, descriptorIndex := 19, attributes := #[] }, { accessFlags := 130, nameIndex := 116, descriptorIndex := 117, attributes := #[] }, { accessFlags := 2, nameIndex := 18, descriptorIndex := 19, attributes := #[] }, { accessFlags := 2, nameIndex := 22, descriptorIndex := 19, attributes := #[] }, { accessFlags := 2, nameIndex := 25, descriptorIndex := 19, attributes := #[] }, { accessFlags := 2, nameIndex := 38, descriptorIndex := 19, attributes := #[] }, { accessFlags := 2, nameIndex := 43, descriptorIndex := 19, attributes := #[] }, { accessFlags := 2, nameIndex := 46, descriptorIndex := 19, attributes := #[] }, { accessFlags := 2, nameIndex := 49, descriptorIndex := 50, attributes := #[] }, { accessFlags := 2, nameIndex := 14, descriptorIndex := 15, attributes := #[] }, { accessFlags := 26, nameIndex := 178, descriptorIndex := 15, attributes := #[] }, { accessFlags := 26, nameIndex := 180, descriptorIndex := 15, attributes := #[] }, { accessFlags := 26, nameIndex := 182, descriptorIndex := 183, attributes := #[] }])
  fields := #[{ name := "NATIVE_METHOD", type := (.object "java/lang/String"), accessFlags := 26, slot := 0, constantValue := 0 }, { name := "UNKNOWN_SOURCE", type := (.object "java/lang/String"), accessFlags := 26, slot := 1, constantValue := 0 }, { name := "declaringClassObject", type := (.object "java/lang/Class"), accessFlags := 130, slot := 0, constantValue := 0 }, { name := "classLoaderName", type := (.object "java/lang/String"), accessFlags := 2, slot := 1, constantValue := 0 }, { name := "moduleName", type := (.object "java/lang/String"), accessFlags := 2, slot := 2, constantValue := 0 }, { name := "moduleVersion", type := (.object "java/lang/String"), accessFlags := 2, slot := 3, constantValue := 0 }, { name := "declaringClass", type := (.object "java/lang/String"), accessFlags := 2, slot := 4, constantValue := 0 }, { name := "methodName", type := (.object "java/lang/String"), accessFlags := 2, slot := 5, constantValue := 0 }, { name := "fileName", type := (.object "java/lang/String"), accessFlags := 2, slot := 6, constantValue := 0 }, { name := "lineNumber", type := .int, accessFlags := 2, slot := 7, constantValue := 0 }, { name := "format", type := .byte, accessFlags := 2, slot := 8, constantValue := 0 }, { name := "BUILTIN_CLASS_LOADER", type := .byte, accessFlags := 26, slot := 2, constantValue := 0 }, { name := "JDK_NON_UPGRADEABLE_MODULE", type := .byte, accessFlags := 26, slot := 3, constantValue := 0 }, { name := "serialVersionUID", type := .long, accessFlags := 26, slot := 4, constantValue := 0 }]
  methods := #[k34m0]
  instanceTypes := #[(.object "java/lang/Class"), (.object "java/lang/String"), (.object "java/lang/String"), (.object "java/lang/String"), (.object "java/lang/String"), (.object "java/lang/String"), (.object "java/lang/String"), .int, .byte]
  staticTypes := #[(.object "java/lang/String"), (.object "java/lang/String"), .byte, .byte, .long]
  resolved := Array.replicate 235 none
  statics := none }

/-- the primitive byte -/
def k35 : Class := { plain "byte" none with kind := .primitive 'B', accessFlags := 0x411 }
/-- [B -/
def k36 : Class := { plain "[B" (some 0) with kind := .array 35 .byte, interfaces := #[21, 2], accessFlags := 1041 }

/-- the primitive char -/
def k37 : Class := { plain "char" none with kind := .primitive 'C', accessFlags := 0x411 }
/-- [C -/
def k38 : Class := { plain "[C" (some 0) with kind := .array 37 .char, interfaces := #[21, 2], accessFlags := 1041 }

/-- the primitive int -/
def k39 : Class := { plain "int" none with kind := .primitive 'I', accessFlags := 0x411 }
/-- [I -/
def k40 : Class := { plain "[I" (some 0) with kind := .array 39 .int, interfaces := #[21, 2], accessFlags := 1041 }

/-- [Ljava/lang/Object; -/
def k41 : Class := { plain "[Ljava/lang/Object;" (some 0) with kind := .array 0 (.object "java/lang/Object"), interfaces := #[21, 2], accessFlags := 1041 }

/-- [Ljava/lang/StackTraceElement; -/
def k42 : Class := { plain "[Ljava/lang/StackTraceElement;" (some 0) with kind := .array 34 (.object "java/lang/StackTraceElement"), interfaces := #[21, 2], accessFlags := 1041 }

/-- [Ljava/lang/Throwable; -/
def k43 : Class := { plain "[Ljava/lang/Throwable;" (some 0) with kind := .array 9 (.object "java/lang/Throwable"), interfaces := #[21, 2], accessFlags := 1041 }

def heap : Heap := #[{ cls := 7, slots := #[.long 0, .int 1, .null, .int 0, .null, .int 0, .int 0], vm := .statics 7 },
  { cls := 9, slots := #[.long 0, .ref 5, .ref 6, .null, .null, .null, .null, .ref 7, .int 1], vm := .statics 9 },
  { cls := 23, slots := #[.int 0, .int 8, .int 0, .int 1], vm := .statics 23 },
  { cls := 24, slots := #[.null, .null, .null], vm := .statics 24 },
  { cls := 25, slots := #[.int 0, .int 0, .int 0, .int 0, .int 0, .int 0, .int 0, .int 0, .null, .null, .ref 6, .null], vm := .statics 25 },
  { cls := 42, slots := #[], vm := .none },
  { cls := 33, slots := #[.int 0], vm := .none },
  { cls := 43, slots := #[], vm := .none }]
def classes : Array Class := #[k0, k1, k2, k3, k4, k5, k6, k7, k8, k9, k10, k11, k12, k13, k14, k15, k16, k17, k18, k19, k20, k21, k22, k23, k24, k25, k26, k27, k28, k29, k30, k31, k32, k33, k34, k35, k36, k37, k38, k39, k40, k41, k42, k43]
def interned : List (Array UInt16 × Addr) := []
def slotsUsed : Nat := 36
def theMethod : MethodId := ⟨1, 1⟩
def args0 : Array Value := #[.int 3, .int 4, .int 5, .int 6]
def aboutOver (below : List Frame) : State where
  vm := { classes := classes, interned := interned.toArray }
  heap := heap
  slotsUsed := slotsUsed
  threads := #[{ frames := .invoking theMethod args0 :: below }]
def below0 : List Frame := [.native { method := ⟨0, 0⟩, args := #[] }]
def about1 : State := aboutOver below0
def p0 : Program := .bare "" "" ""
def e0 : Env := launch0.env 0 0 0
theorem w_frames : about1.frames = Frame.invoking theMethod args0 :: below0 := rfl
set_option maxRecDepth 65536 in
theorem w_args : argsFit about1.vm theMethod args0 = true := by decide +kernel
set_option maxRecDepth 65536 in
theorem w_heap : heapFits about1 = true := by decide +kernel
set_option maxRecDepth 65536 in
theorem w_runnable : about1.curStatus? = some .runnable := by decide +kernel
set_option maxRecDepth 65536 in
theorem w_alone : about1.alone = true := by decide +kernel
set_option maxRecDepth 65536 in
theorem w_named : about1.methodNamed? x = some theMethod := by decide +kernel
set_option maxRecDepth 65536 in
theorem w_hears : about1.hears theMethod below0 = true := by decide +kernel
set_option maxRecDepth 65536 in
theorem w_ripe : about1.ripe theMethod args0 below0 = true := by decide +kernel
theorem w_running : about1.status = .running := rfl
set_option maxRecDepth 65536 in
theorem w_room : about1.hasRoom e0.platform room_1 = true :=
  launch0.hasRoom_least _ room_1 (by decide +kernel) (by decide +kernel) (by decide +kernel) (by decide +kernel) (by decide +kernel) (by decide +kernel)
theorem allAtoms_all (ts : List Jvm.Cond) (a : Array Jvm.Value) (st : Jvm.State) : (allAtoms ts).before a st = ts.all (fun c => c.before a st) := by
  induction ts with
  | nil => rfl
  | cons c t ih =>
    show (Jvm.Cond.and c (allAtoms t)).before a st = _
    rw [Jvm.Cond.before_and, ih, List.all_cons]
def words1 : List Jvm.Cond := Jvm.Cond.code x code maxLocals ret :: tables_1
/-- a 'code' word, met by the world's own term for the bytes: nothing is compared byte by byte -/
theorem code_word {y : MethodName} {bytes : ByteArray} {mx : Nat} {rt : Option FieldType} {a : Array Value} {s : State} {m : MethodId} {meth : Method} {c : Code} (h1 : s.methodNamed? y = some m) (h2 : s.vm.method? m = some meth) (h3 : meth.code = some c) (h4 : c.code = bytes)
    (h5 : (c.maxLocals == mx && c.exceptionTable.isEmpty && decide (c.maxStack ≤ mostOperands) && decide (meth.sig.returnType = rt) && !meth.locks && decide (parseMethodDescriptor y.desc = some meth.sig)) = true) : (Jvm.Cond.code y bytes mx rt).before a s = true := by
  simp only [Bool.and_eq_true, beq_iff_eq, Bool.not_eq_true', decide_eq_true_eq] at h5
  obtain ⟨⟨⟨⟨⟨g1, g2⟩, g3⟩, g4⟩, g5⟩, g6⟩ := h5
  simp [Cond.before, Cond.holds, Cond.value, h1, h2, h3, h4, g1, g2, g3, g4, g5, g6]
def isCode : Jvm.Cond → Bool
  | .code _ _ _ _ => true
  | _ => false
theorem all_split {L : List Jvm.Cond} {P : Jvm.Cond → Bool} (h1 : L.all (fun c => isCode c || P c) = true) (h2 : ∀ c ∈ L.filter isCode, P c = true) : L.all P = true := by
  refine List.all_eq_true.mpr fun c hc => ?_
  have h := List.all_eq_true.mp h1 c hc
  rcases Bool.eq_false_or_eq_true (isCode c) with hi | hi
  · exact h2 c (List.mem_filter.mpr ⟨hc, hi⟩)
  · simpa [hi] using h
set_option maxRecDepth 65536 in
theorem w_c0 : (Jvm.Cond.code x code maxLocals ret).before args0 about1 = true := code_word (m := ⟨1, 1⟩) (meth := k1m1) (c := k1c1) (by decide +kernel) rfl rfl rfl (by decide +kernel)
set_option maxRecDepth 65536 in
theorem w_c1 : (Jvm.Cond.code ({ cls := "com/example/model_check_sql/modelchecksql/model/ModelReading", name := "noState", desc := "(Ljava/lang/String;)Lcom/example/model_check_sql/modelchecksql/model/ModelFormatException;" } : Jvm.MethodName) prog_21_method_5_code (1 : Nat) (Option.some (Jvm.ClassFile.FieldType.object "com/example/model_check_sql/modelchecksql/model/ModelFormatException"))).before args0 about1 = true := code_word (m := ⟨8, 1⟩) (meth := k8m1) (c := k8c1) (by decide +kernel) rfl rfl rfl (by decide +kernel)
set_option maxRecDepth 65536 in
theorem w_c2 : (Jvm.Cond.code ({ cls := "java/lang/StringBuilder", name := "<init>", desc := "()V" } : Jvm.MethodName) jdk_67_method_1_code (1 : Nat) (Option.none : Option Jvm.ClassFile.FieldType)).before args0 about1 = true := code_word (m := ⟨16, 0⟩) (meth := k16m0) (c := k16c0) (by decide +kernel) rfl rfl rfl (by decide +kernel)
set_option maxRecDepth 65536 in
theorem w_c3 : (Jvm.Cond.code ({ cls := "java/lang/AbstractStringBuilder", name := "<init>", desc := "(I)V" } : Jvm.MethodName) jdk_68_method_2_code (2 : Nat) (Option.none : Option Jvm.ClassFile.FieldType)).before args0 about1 = true := code_word (m := ⟨15, 1⟩) (meth := k15m1) (c := k15c1) (by decide +kernel) rfl rfl rfl (by decide +kernel)
set_option maxRecDepth 65536 in
theorem w_c4 : (Jvm.Cond.code ({ cls := "java/lang/Object", name := "<init>", desc := "()V" } : Jvm.MethodName) object_method_1_code (1 : Nat) (Option.none : Option Jvm.ClassFile.FieldType)).before args0 about1 = true := code_word (m := ⟨0, 0⟩) (meth := k0m0) (c := k0c0) (by decide +kernel) rfl rfl rfl (by decide +kernel)
set_option maxRecDepth 65536 in
theorem w_c5 : (Jvm.Cond.code ({ cls := "java/lang/StringBuilder", name := "append", desc := "(Ljava/lang/String;)Ljava/lang/StringBuilder;" } : Jvm.MethodName) jdk_67_method_7_code (2 : Nat) (Option.some (Jvm.ClassFile.FieldType.object "java/lang/StringBuilder"))).before args0 about1 = true := code_word (m := ⟨16, 1⟩) (meth := k16m1) (c := k16c1) (by decide +kernel) rfl rfl rfl (by decide +kernel)
set_option maxRecDepth 65536 in
theorem w_c6 : (Jvm.Cond.code ({ cls := "java/lang/AbstractStringBuilder", name := "append", desc := "(Ljava/lang/String;)Ljava/lang/AbstractStringBuilder;" } : Jvm.MethodName) jdk_68_method_22_code (3 : Nat) (Option.some (Jvm.ClassFile.FieldType.object "java/lang/AbstractStringBuilder"))).before args0 about1 = true := code_word (m := ⟨15, 6⟩) (meth := k15m6) (c := k15c6) (by decide +kernel) rfl rfl rfl (by decide +kernel)
set_option maxRecDepth 65536 in
theorem w_c7 : (Jvm.Cond.code ({ cls := "java/lang/String", name := "length", desc := "()I" } : Jvm.MethodName) jdk_42_method_54_code (1 : Nat) (Option.some Jvm.ClassFile.FieldType.int)).before args0 about1 = true := code_word (m := ⟨7, 3⟩) (meth := k7m3) (c := k7c3) (by decide +kernel) rfl rfl rfl (by decide +kernel)
set_option maxRecDepth 65536 in
theorem w_c8 : (Jvm.Cond.code ({ cls := "java/lang/String", name := "coder", desc := "()B" } : Jvm.MethodName) jdk_42_method_152_code (1 : Nat) (Option.some Jvm.ClassFile.FieldType.byte)).before args0 about1 = true := code_word (m := ⟨7, 10⟩) (meth := k7m10) (c := k7c10) (by decide +kernel) rfl rfl rfl (by decide +kernel)
set_option maxRecDepth 65536 in
theorem w_c9 : (Jvm.Cond.code ({ cls := "java/lang/AbstractStringBuilder", name := "ensureCapacityInternal", desc := "(I)V" } : Jvm.MethodName) jdk_68_method_9_code (3 : Nat) (Option.none : Option Jvm.ClassFile.FieldType)).before args0 about1 = true := code_word (m := ⟨15, 3⟩) (meth := k15m3) (c := k15c3) (by decide +kernel) rfl rfl rfl (by decide +kernel)
set_option maxRecDepth 65536 in
theorem w_c10 : (Jvm.Cond.code ({ cls := "java/lang/AbstractStringBuilder", name := "putStringAt", desc := "(ILjava/lang/String;)V" } : Jvm.MethodName) jdk_68_method_73_code (3 : Nat) (Option.none : Option Jvm.ClassFile.FieldType)).before args0 about1 = true := code_word (m := ⟨15, 10⟩) (meth := k15m10) (c := k15c10) (by decide +kernel) rfl rfl rfl (by decide +kernel)
set_option maxRecDepth 65536 in
theorem w_c11 : (Jvm.Cond.code ({ cls := "java/lang/AbstractStringBuilder", name := "inflateIfNeededFor", desc := "(Ljava/lang/String;)V" } : Jvm.MethodName) jdk_68_method_71_code (2 : Nat) (Option.none : Option Jvm.ClassFile.FieldType)).before args0 about1 = true := code_word (m := ⟨15, 9⟩) (meth := k15m9) (c := k15c9) (by decide +kernel) rfl rfl rfl (by decide +kernel)
set_option maxRecDepth 65536 in
theorem w_c12 : (Jvm.Cond.code ({ cls := "java/lang/String", name := "getBytes", desc := "([BIB)V" } : Jvm.MethodName) jdk_42_method_147_code (4 : Nat) (Option.none : Option Jvm.ClassFile.FieldType)).before args0 about1 = true := code_word (m := ⟨7, 6⟩) (meth := k7m6) (c := k7c6) (by decide +kernel) rfl rfl rfl (by decide +kernel)
set_option maxRecDepth 65536 in
theorem w_c13 : (Jvm.Cond.code ({ cls := "java/lang/AbstractStringBuilder", name := "newCapacity", desc := "(I)I" } : Jvm.MethodName) jdk_68_method_10_code (6 : Nat) (Option.some Jvm.ClassFile.FieldType.int)).before args0 about1 = true := code_word (m := ⟨15, 4⟩) (meth := k15m4) (c := k15c4) (by decide +kernel) rfl rfl rfl (by decide +kernel)
set_option maxRecDepth 65536 in
theorem w_c14 : (Jvm.Cond.code ({ cls := "jdk/internal/util/ArraysSupport", name := "newLength", desc := "(III)I" } : Jvm.MethodName) jdk_48_method_27_code (4 : Nat) (Option.some Jvm.ClassFile.FieldType.int)).before args0 about1 = true := code_word (m := ⟨18, 1⟩) (meth := k18m1) (c := k18c1) (by decide +kernel) rfl rfl rfl (by decide +kernel)
set_option maxRecDepth 65536 in
theorem w_c15 : (Jvm.Cond.code ({ cls := "java/lang/Math", name := "max", desc := "(II)I" } : Jvm.MethodName) jdk_29_method_65_code (2 : Nat) (Option.some Jvm.ClassFile.FieldType.int)).before args0 about1 = true := code_word (m := ⟨19, 1⟩) (meth := k19m1) (c := k19c1) (by decide +kernel) rfl rfl rfl (by decide +kernel)
set_option maxRecDepth 65536 in
theorem w_c16 : (Jvm.Cond.code ({ cls := "java/util/Arrays", name := "copyOf", desc := "([BI)[B" } : Jvm.MethodName) jdk_65_method_121_code (3 : Nat) (Option.some (Jvm.ClassFile.FieldType.array Jvm.ClassFile.FieldType.byte))).before args0 about1 = true := code_word (m := ⟨20, 1⟩) (meth := k20m1) (c := k20c1) (by decide +kernel) rfl rfl rfl (by decide +kernel)
set_option maxRecDepth 65536 in
theorem w_c17 : (Jvm.Cond.code ({ cls := "java/lang/Math", name := "min", desc := "(II)I" } : Jvm.MethodName) jdk_29_method_69_code (2 : Nat) (Option.some Jvm.ClassFile.FieldType.int)).before args0 about1 = true := code_word (m := ⟨19, 2⟩) (meth := k19m2) (c := k19c2) (by decide +kernel) rfl rfl rfl (by decide +kernel)
set_option maxRecDepth 65536 in
theorem w_c18 : (Jvm.Cond.code ({ cls := "java/lang/StringBuilder", name := "toString", desc := "()Ljava/lang/String;" } : Jvm.MethodName) jdk_67_method_42_code (1 : Nat) (Option.some (Jvm.ClassFile.FieldType.object "java/lang/String"))).before args0 about1 = true := code_word (m := ⟨16, 2⟩) (meth := k16m2) (c := k16c2) (by decide +kernel) rfl rfl rfl (by decide +kernel)
set_option maxRecDepth 65536 in
theorem w_c19 : (Jvm.Cond.code ({ cls := "java/lang/String", name := "<init>", desc := "(Ljava/lang/StringBuilder;)V" } : Jvm.MethodName) jdk_42_method_53_code (2 : Nat) (Option.none : Option Jvm.ClassFile.FieldType)).before args0 about1 = true := code_word (m := ⟨7, 2⟩) (meth := k7m2) (c := k7c2) (by decide +kernel) rfl rfl rfl (by decide +kernel)
set_option maxRecDepth 65536 in
theorem w_c20 : (Jvm.Cond.code ({ cls := "java/lang/String", name := "<init>", desc := "(Ljava/lang/AbstractStringBuilder;Ljava/lang/Void;)V" } : Jvm.MethodName) jdk_42_method_150_code (5 : Nat) (Option.none : Option Jvm.ClassFile.FieldType)).before args0 about1 = true := code_word (m := ⟨7, 8⟩) (meth := k7m8) (c := k7c8) (by decide +kernel) rfl rfl rfl (by decide +kernel)
set_option maxRecDepth 65536 in
theorem w_c21 : (Jvm.Cond.code ({ cls := "java/lang/AbstractStringBuilder", name := "getValue", desc := "()[B" } : Jvm.MethodName) jdk_68_method_64_code (1 : Nat) (Option.some (Jvm.ClassFile.FieldType.array Jvm.ClassFile.FieldType.byte))).before args0 about1 = true := code_word (m := ⟨15, 7⟩) (meth := k15m7) (c := k15c7) (by decide +kernel) rfl rfl rfl (by decide +kernel)
set_option maxRecDepth 65536 in
theorem w_c22 : (Jvm.Cond.code ({ cls := "java/lang/StringBuilder", name := "length", desc := "()I" } : Jvm.MethodName) jdk_67_method_93_code (1 : Nat) (Option.some Jvm.ClassFile.FieldType.int)).before args0 about1 = true := code_word (m := ⟨16, 3⟩) (meth := k16m3) (c := k16c3) (by decide +kernel) rfl rfl rfl (by decide +kernel)
set_option maxRecDepth 65536 in
theorem w_c23 : (Jvm.Cond.code ({ cls := "java/lang/AbstractStringBuilder", name := "length", desc := "()I" } : Jvm.MethodName) jdk_68_method_6_code (1 : Nat) (Option.some Jvm.ClassFile.FieldType.int)).before args0 about1 = true := code_word (m := ⟨15, 2⟩) (meth := k15m2) (c := k15c2) (by decide +kernel) rfl rfl rfl (by decide +kernel)
set_option maxRecDepth 65536 in
theorem w_c24 : (Jvm.Cond.code ({ cls := "java/lang/AbstractStringBuilder", name := "isLatin1", desc := "()Z" } : Jvm.MethodName) jdk_68_method_68_code (1 : Nat) (Option.some Jvm.ClassFile.FieldType.boolean)).before args0 about1 = true := code_word (m := ⟨15, 8⟩) (meth := k15m8) (c := k15c8) (by decide +kernel) rfl rfl rfl (by decide +kernel)
set_option maxRecDepth 65536 in
theorem w_c25 : (Jvm.Cond.code ({ cls := "java/util/Arrays", name := "copyOfRange", desc := "([BII)[B" } : Jvm.MethodName) jdk_65_method_132_code (3 : Nat) (Option.some (Jvm.ClassFile.FieldType.array Jvm.ClassFile.FieldType.byte))).before args0 about1 = true := code_word (m := ⟨20, 2⟩) (meth := k20m2) (c := k20c2) (by decide +kernel) rfl rfl rfl (by decide +kernel)
set_option maxRecDepth 65536 in
theorem w_c26 : (Jvm.Cond.code ({ cls := "com/example/model_check_sql/modelchecksql/model/ModelFormatException", name := "<init>", desc := "(Ljava/lang/String;)V" } : Jvm.MethodName) prog_20_method_1_code (2 : Nat) (Option.none : Option Jvm.ClassFile.FieldType)).before args0 about1 = true := code_word (m := ⟨13, 0⟩) (meth := k13m0) (c := k13c0) (by decide +kernel) rfl rfl rfl (by decide +kernel)
set_option maxRecDepth 65536 in
theorem w_c27 : (Jvm.Cond.code ({ cls := "java/lang/IllegalArgumentException", name := "<init>", desc := "(Ljava/lang/String;)V" } : Jvm.MethodName) jdk_57_method_2_code (2 : Nat) (Option.none : Option Jvm.ClassFile.FieldType)).before args0 about1 = true := code_word (m := ⟨12, 1⟩) (meth := k12m1) (c := k12c1) (by decide +kernel) rfl rfl rfl (by decide +kernel)
set_option maxRecDepth 65536 in
theorem w_c28 : (Jvm.Cond.code ({ cls := "java/lang/RuntimeException", name := "<init>", desc := "(Ljava/lang/String;)V" } : Jvm.MethodName) jdk_58_method_2_code (2 : Nat) (Option.none : Option Jvm.ClassFile.FieldType)).before args0 about1 = true := code_word (m := ⟨11, 1⟩) (meth := k11m1) (c := k11c1) (by decide +kernel) rfl rfl rfl (by decide +kernel)
set_option maxRecDepth 65536 in
theorem w_c29 : (Jvm.Cond.code ({ cls := "java/lang/Exception", name := "<init>", desc := "(Ljava/lang/String;)V" } : Jvm.MethodName) jdk_59_method_2_code (2 : Nat) (Option.none : Option Jvm.ClassFile.FieldType)).before args0 about1 = true := code_word (m := ⟨10, 1⟩) (meth := k10m1) (c := k10c1) (by decide +kernel) rfl rfl rfl (by decide +kernel)
set_option maxRecDepth 65536 in
theorem w_c30 : (Jvm.Cond.code ({ cls := "java/lang/Throwable", name := "<init>", desc := "(Ljava/lang/String;)V" } : Jvm.MethodName) jdk_78_method_2_code (2 : Nat) (Option.none : Option Jvm.ClassFile.FieldType)).before args0 about1 = true := code_word (m := ⟨9, 1⟩) (meth := k9m1) (c := k9c1) (by decide +kernel) rfl rfl rfl (by decide +kernel)
set_option maxRecDepth 65536 in
theorem w_c31 : (Jvm.Cond.code ({ cls := "java/lang/Throwable", name := "<init>", desc := "()V" } : Jvm.MethodName) jdk_78_method_1_code (1 : Nat) (Option.none : Option Jvm.ClassFile.FieldType)).before args0 about1 = true := code_word (m := ⟨9, 0⟩) (meth := k9m0) (c := k9c0) (by decide +kernel) rfl rfl rfl (by decide +kernel)
set_option maxRecDepth 65536 in
theorem w_c32 : (Jvm.Cond.code ({ cls := "java/lang/Throwable", name := "getMessage", desc := "()Ljava/lang/String;" } : Jvm.MethodName) jdk_78_method_6_code (1 : Nat) (Option.some (Jvm.ClassFile.FieldType.object "java/lang/String"))).before args0 about1 = true := code_word (m := ⟨9, 2⟩) (meth := k9m2) (c := k9c2) (by decide +kernel) rfl rfl rfl (by decide +kernel)
set_option maxRecDepth 65536 in
theorem w_c33 : (Jvm.Cond.code ({ cls := "java/lang/String", name := "equals", desc := "(Ljava/lang/Object;)Z" } : Jvm.MethodName) jdk_42_method_66_code (3 : Nat) (Option.some Jvm.ClassFile.FieldType.boolean)).before args0 about1 = true := code_word (m := ⟨7, 4⟩) (meth := k7m4) (c := k7c4) (by decide +kernel) rfl rfl rfl (by decide +kernel)
set_option maxRecDepth 65536 in
theorem w_c34 : (Jvm.Cond.code ({ cls := "java/lang/StringLatin1", name := "equals", desc := "([B[B)Z" } : Jvm.MethodName) jdk_43_method_13_code (3 : Nat) (Option.some Jvm.ClassFile.FieldType.boolean)).before args0 about1 = true := code_word (m := ⟨22, 2⟩) (meth := k22m2) (c := k22c2) (by decide +kernel) rfl rfl rfl (by decide +kernel)
set_option maxRecDepth 65536 in
theorem w_c35 : (Jvm.Cond.code ({ cls := "java/lang/String", name := "<init>", desc := "([C)V" } : Jvm.MethodName) jdk_42_method_3_code (2 : Nat) (Option.none : Option Jvm.ClassFile.FieldType)).before args0 about1 = true := code_word (m := ⟨7, 1⟩) (meth := k7m1) (c := k7c1) (by decide +kernel) rfl rfl rfl (by decide +kernel)
set_option maxRecDepth 65536 in
theorem w_c36 : (Jvm.Cond.code ({ cls := "java/lang/String", name := "<init>", desc := "([CIILjava/lang/Void;)V" } : Jvm.MethodName) jdk_42_method_149_code (6 : Nat) (Option.none : Option Jvm.ClassFile.FieldType)).before args0 about1 = true := code_word (m := ⟨7, 7⟩) (meth := k7m7) (c := k7c7) (by decide +kernel) rfl rfl rfl (by decide +kernel)
set_option maxRecDepth 65536 in
theorem w_c37 : (Jvm.Cond.code ({ cls := "java/lang/StringUTF16", name := "compress", desc := "([CII)[B" } : Jvm.MethodName) jdk_52_method_16_code (6 : Nat) (Option.some (Jvm.ClassFile.FieldType.array Jvm.ClassFile.FieldType.byte))).before args0 about1 = true := code_word (m := ⟨23, 8⟩) (meth := k23m8) (c := k23c8) (by decide +kernel) rfl rfl rfl (by decide +kernel)
set_option maxRecDepth 65536 in
theorem w_c38 : (Jvm.Cond.code ({ cls := "java/lang/StringUTF16", name := "compress", desc := "([CI[BII)I" } : Jvm.MethodName) jdk_52_method_21_code (7 : Nat) (Option.some Jvm.ClassFile.FieldType.int)).before args0 about1 = true := code_word (m := ⟨23, 9⟩) (meth := k23m9) (c := k23c9) (by decide +kernel) rfl rfl rfl (by decide +kernel)
set_option maxRecDepth 65536 in
theorem w_c39 : (Jvm.Cond.code ({ cls := "java/lang/StringUTF16", name := "coderFromArrayLen", desc := "([BI)B" } : Jvm.MethodName) jdk_52_method_15_code (2 : Nat) (Option.some Jvm.ClassFile.FieldType.byte)).before args0 about1 = true := code_word (m := ⟨23, 7⟩) (meth := k23m7) (c := k23c7) (by decide +kernel) rfl rfl rfl (by decide +kernel)
set_option maxRecDepth 65536 in
theorem w_c40 : (Jvm.Cond.code ({ cls := "java/lang/StringUTF16", name := "toBytes", desc := "([CII)[B" } : Jvm.MethodName) jdk_52_method_14_code (5 : Nat) (Option.some (Jvm.ClassFile.FieldType.array Jvm.ClassFile.FieldType.byte))).before args0 about1 = true := code_word (m := ⟨23, 6⟩) (meth := k23m6) (c := k23c6) (by decide +kernel) rfl rfl rfl (by decide +kernel)
set_option maxRecDepth 65536 in
theorem w_c41 : (Jvm.Cond.code ({ cls := "java/lang/StringUTF16", name := "newBytesFor", desc := "(I)[B" } : Jvm.MethodName) jdk_52_method_2_code (1 : Nat) (Option.some (Jvm.ClassFile.FieldType.array Jvm.ClassFile.FieldType.byte))).before args0 about1 = true := code_word (m := ⟨23, 1⟩) (meth := k23m1) (c := k23c1) (by decide +kernel) rfl rfl rfl (by decide +kernel)
set_option maxRecDepth 65536 in
theorem w_c42 : (Jvm.Cond.code ({ cls := "java/lang/StringUTF16", name := "newBytesLength", desc := "(I)I" } : Jvm.MethodName) jdk_52_method_3_code (1 : Nat) (Option.some Jvm.ClassFile.FieldType.int)).before args0 about1 = true := code_word (m := ⟨23, 2⟩) (meth := k23m2) (c := k23c2) (by decide +kernel) rfl rfl rfl (by decide +kernel)
set_option maxRecDepth 65536 in
theorem w_c43 : (Jvm.Cond.code ({ cls := "java/lang/StringUTF16", name := "putChar", desc := "([BII)V" } : Jvm.MethodName) jdk_52_method_4_code (3 : Nat) (Option.none : Option Jvm.ClassFile.FieldType)).before args0 about1 = true := code_word (m := ⟨23, 3⟩) (meth := k23m3) (c := k23c3) (by decide +kernel) rfl rfl rfl (by decide +kernel)
set_option maxRecDepth 65536 in
theorem w_c44 : (Jvm.Cond.code ({ cls := "java/lang/StringUTF16", name := "getChar", desc := "([BI)C" } : Jvm.MethodName) jdk_52_method_5_code (2 : Nat) (Option.some Jvm.ClassFile.FieldType.char)).before args0 about1 = true := code_word (m := ⟨23, 4⟩) (meth := k23m4) (c := k23c4) (by decide +kernel) rfl rfl rfl (by decide +kernel)
set_option maxRecDepth 65536 in
theorem w_c45 : (Jvm.Cond.code ({ cls := "java/lang/AbstractStringBuilder", name := "inflate", desc := "()V" } : Jvm.MethodName) jdk_68_method_11_code (2 : Nat) (Option.none : Option Jvm.ClassFile.FieldType)).before args0 about1 = true := code_word (m := ⟨15, 5⟩) (meth := k15m5) (c := k15c5) (by decide +kernel) rfl rfl rfl (by decide +kernel)
set_option maxRecDepth 65536 in
theorem w_c46 : (Jvm.Cond.code ({ cls := "java/lang/StringLatin1", name := "inflate", desc := "([BI[BII)V" } : Jvm.MethodName) jdk_43_method_50_code (5 : Nat) (Option.none : Option Jvm.ClassFile.FieldType)).before args0 about1 = true := code_word (m := ⟨22, 4⟩) (meth := k22m4) (c := k22c4) (by decide +kernel) rfl rfl rfl (by decide +kernel)
set_option maxRecDepth 65536 in
theorem w_c47 : (Jvm.Cond.code ({ cls := "java/lang/StringUTF16", name := "inflate", desc := "([BI[BII)V" } : Jvm.MethodName) jdk_52_method_86_code (6 : Nat) (Option.none : Option Jvm.ClassFile.FieldType)).before args0 about1 = true := code_word (m := ⟨23, 11⟩) (meth := k23m11) (c := k23c11) (by decide +kernel) rfl rfl rfl (by decide +kernel)
set_option maxRecDepth 65536 in
theorem w_c48 : (Jvm.Cond.code ({ cls := "java/lang/StringUTF16", name := "checkBoundsOffCount", desc := "(II[B)V" } : Jvm.MethodName) jdk_52_method_94_code (3 : Nat) (Option.none : Option Jvm.ClassFile.FieldType)).before args0 about1 = true := code_word (m := ⟨23, 12⟩) (meth := k23m12) (c := k23c12) (by decide +kernel) rfl rfl rfl (by decide +kernel)
set_option maxRecDepth 65536 in
theorem w_c49 : (Jvm.Cond.code ({ cls := "java/lang/StringUTF16", name := "length", desc := "([B)I" } : Jvm.MethodName) jdk_52_method_6_code (1 : Nat) (Option.some Jvm.ClassFile.FieldType.int)).before args0 about1 = true := code_word (m := ⟨23, 5⟩) (meth := k23m5) (c := k23c5) (by decide +kernel) rfl rfl rfl (by decide +kernel)
set_option maxRecDepth 65536 in
theorem w_c50 : (Jvm.Cond.code ({ cls := "java/lang/String", name := "checkBoundsOffCount", desc := "(III)I" } : Jvm.MethodName) jdk_42_method_157_code (3 : Nat) (Option.some Jvm.ClassFile.FieldType.int)).before args0 about1 = true := code_word (m := ⟨7, 11⟩) (meth := k7m11) (c := k7c11) (by decide +kernel) rfl rfl rfl (by decide +kernel)
set_option maxRecDepth 65536 in
theorem w_c51 : (Jvm.Cond.code ({ cls := "jdk/internal/util/Preconditions", name := "checkFromIndexSize", desc := "(IIILjava/util/function/BiFunction;)I" } : Jvm.MethodName) jdk_41_method_13_code (4 : Nat) (Option.some Jvm.ClassFile.FieldType.int)).before args0 about1 = true := code_word (m := ⟨24, 1⟩) (meth := k24m1) (c := k24c1) (by decide +kernel) rfl rfl rfl (by decide +kernel)
set_option maxRecDepth 65536 in
theorem w_c52 : (Jvm.Cond.code ({ cls := "java/lang/String", name := "valueOf", desc := "(C)Ljava/lang/String;" } : Jvm.MethodName) jdk_42_method_139_code (1 : Nat) (Option.some (Jvm.ClassFile.FieldType.object "java/lang/String"))).before args0 about1 = true := code_word (m := ⟨7, 5⟩) (meth := k7m5) (c := k7c5) (by decide +kernel) rfl rfl rfl (by decide +kernel)
set_option maxRecDepth 65536 in
theorem w_c53 : (Jvm.Cond.code ({ cls := "java/lang/StringLatin1", name := "canEncode", desc := "(C)Z" } : Jvm.MethodName) jdk_43_method_3_code (1 : Nat) (Option.some Jvm.ClassFile.FieldType.boolean)).before args0 about1 = true := code_word (m := ⟨22, 1⟩) (meth := k22m1) (c := k22c1) (by decide +kernel) rfl rfl rfl (by decide +kernel)
set_option maxRecDepth 65536 in
theorem w_c54 : (Jvm.Cond.code ({ cls := "java/lang/StringLatin1", name := "toBytes", desc := "(C)[B" } : Jvm.MethodName) jdk_43_method_46_code (1 : Nat) (Option.some (Jvm.ClassFile.FieldType.array Jvm.ClassFile.FieldType.byte))).before args0 about1 = true := code_word (m := ⟨22, 3⟩) (meth := k22m3) (c := k22c3) (by decide +kernel) rfl rfl rfl (by decide +kernel)
set_option maxRecDepth 65536 in
theorem w_c55 : (Jvm.Cond.code ({ cls := "java/lang/String", name := "<init>", desc := "([BB)V" } : Jvm.MethodName) jdk_42_method_151_code (3 : Nat) (Option.none : Option Jvm.ClassFile.FieldType)).before args0 about1 = true := code_word (m := ⟨7, 9⟩) (meth := k7m9) (c := k7c9) (by decide +kernel) rfl rfl rfl (by decide +kernel)
set_option maxRecDepth 65536 in
theorem w_c56 : (Jvm.Cond.code ({ cls := "java/lang/StringUTF16", name := "toBytes", desc := "(C)[B" } : Jvm.MethodName) jdk_52_method_24_code (2 : Nat) (Option.some (Jvm.ClassFile.FieldType.array Jvm.ClassFile.FieldType.byte))).before args0 about1 = true := code_word (m := ⟨23, 10⟩) (meth := k23m10) (c := k23c10) (by decide +kernel) rfl rfl rfl (by decide +kernel)
def codes1 : List Jvm.Cond := [Jvm.Cond.code x code maxLocals ret, Jvm.Cond.code ({ cls := "com/example/model_check_sql/modelchecksql/model/ModelReading", name := "noState", desc := "(Ljava/lang/String;)Lcom/example/model_check_sql/modelchecksql/model/ModelFormatException;" } : Jvm.MethodName) prog_21_method_5_code (1 : Nat) (Option.some (Jvm.ClassFile.FieldType.object "com/example/model_check_sql/modelchecksql/model/ModelFormatException")), Jvm.Cond.code ({ cls := "java/lang/StringBuilder", name := "<init>", desc := "()V" } : Jvm.MethodName) jdk_67_method_1_code (1 : Nat) (Option.none : Option Jvm.ClassFile.FieldType), Jvm.Cond.code ({ cls := "java/lang/AbstractStringBuilder", name := "<init>", desc := "(I)V" } : Jvm.MethodName) jdk_68_method_2_code (2 : Nat) (Option.none : Option Jvm.ClassFile.FieldType), Jvm.Cond.code ({ cls := "java/lang/Object", name := "<init>", desc := "()V" } : Jvm.MethodName) object_method_1_code (1 : Nat) (Option.none : Option Jvm.ClassFile.FieldType), Jvm.Cond.code ({ cls := "java/lang/StringBuilder", name := "append", desc := "(Ljava/lang/String;)Ljava/lang/StringBuilder;" } : Jvm.MethodName) jdk_67_method_7_code (2 : Nat) (Option.some (Jvm.ClassFile.FieldType.object "java/lang/StringBuilder")), Jvm.Cond.code ({ cls := "java/lang/AbstractStringBuilder", name := "append", desc := "(Ljava/lang/String;)Ljava/lang/AbstractStringBuilder;" } : Jvm.MethodName) jdk_68_method_22_code (3 : Nat) (Option.some (Jvm.ClassFile.FieldType.object "java/lang/AbstractStringBuilder")), Jvm.Cond.code ({ cls := "java/lang/String", name := "length", desc := "()I" } : Jvm.MethodName) jdk_42_method_54_code (1 : Nat) (Option.some Jvm.ClassFile.FieldType.int), Jvm.Cond.code ({ cls := "java/lang/String", name := "coder", desc := "()B" } : Jvm.MethodName) jdk_42_method_152_code (1 : Nat) (Option.some Jvm.ClassFile.FieldType.byte), Jvm.Cond.code ({ cls := "java/lang/AbstractStringBuilder", name := "ensureCapacityInternal", desc := "(I)V" } : Jvm.MethodName) jdk_68_method_9_code (3 : Nat) (Option.none : Option Jvm.ClassFile.FieldType), Jvm.Cond.code ({ cls := "java/lang/AbstractStringBuilder", name := "putStringAt", desc := "(ILjava/lang/String;)V" } : Jvm.MethodName) jdk_68_method_73_code (3 : Nat) (Option.none : Option Jvm.ClassFile.FieldType), Jvm.Cond.code ({ cls := "java/lang/AbstractStringBuilder", name := "inflateIfNeededFor", desc := "(Ljava/lang/String;)V" } : Jvm.MethodName) jdk_68_method_71_code (2 : Nat) (Option.none : Option Jvm.ClassFile.FieldType), Jvm.Cond.code ({ cls := "java/lang/String", name := "getBytes", desc := "([BIB)V" } : Jvm.MethodName) jdk_42_method_147_code (4 : Nat) (Option.none : Option Jvm.ClassFile.FieldType), Jvm.Cond.code ({ cls := "java/lang/AbstractStringBuilder", name := "newCapacity", desc := "(I)I" } : Jvm.MethodName) jdk_68_method_10_code (6 : Nat) (Option.some Jvm.ClassFile.FieldType.int), Jvm.Cond.code ({ cls := "jdk/internal/util/ArraysSupport", name := "newLength", desc := "(III)I" } : Jvm.MethodName) jdk_48_method_27_code (4 : Nat) (Option.some Jvm.ClassFile.FieldType.int), Jvm.Cond.code ({ cls := "java/lang/Math", name := "max", desc := "(II)I" } : Jvm.MethodName) jdk_29_method_65_code (2 : Nat) (Option.some Jvm.ClassFile.FieldType.int), Jvm.Cond.code ({ cls := "java/util/Arrays", name := "copyOf", desc := "([BI)[B" } : Jvm.MethodName) jdk_65_method_121_code (3 : Nat) (Option.some (Jvm.ClassFile.FieldType.array Jvm.ClassFile.FieldType.byte)), Jvm.Cond.code ({ cls := "java/lang/Math", name := "min", desc := "(II)I" } : Jvm.MethodName) jdk_29_method_69_code (2 : Nat) (Option.some Jvm.ClassFile.FieldType.int), Jvm.Cond.code ({ cls := "java/lang/StringBuilder", name := "toString", desc := "()Ljava/lang/String;" } : Jvm.MethodName) jdk_67_method_42_code (1 : Nat) (Option.some (Jvm.ClassFile.FieldType.object "java/lang/String")), Jvm.Cond.code ({ cls := "java/lang/String", name := "<init>", desc := "(Ljava/lang/StringBuilder;)V" } : Jvm.MethodName) jdk_42_method_53_code (2 : Nat) (Option.none : Option Jvm.ClassFile.FieldType), Jvm.Cond.code ({ cls := "java/lang/String", name := "<init>", desc := "(Ljava/lang/AbstractStringBuilder;Ljava/lang/Void;)V" } : Jvm.MethodName) jdk_42_method_150_code (5 : Nat) (Option.none : Option Jvm.ClassFile.FieldType), Jvm.Cond.code ({ cls := "java/lang/AbstractStringBuilder", name := "getValue", desc := "()[B" } : Jvm.MethodName) jdk_68_method_64_code (1 : Nat) (Option.some (Jvm.ClassFile.FieldType.array Jvm.ClassFile.FieldType.byte)), Jvm.Cond.code ({ cls := "java/lang/StringBuilder", name := "length", desc := "()I" } : Jvm.MethodName) jdk_67_method_93_code (1 : Nat) (Option.some Jvm.ClassFile.FieldType.int), Jvm.Cond.code ({ cls := "java/lang/AbstractStringBuilder", name := "length", desc := "()I" } : Jvm.MethodName) jdk_68_method_6_code (1 : Nat) (Option.some Jvm.ClassFile.FieldType.int), Jvm.Cond.code ({ cls := "java/lang/AbstractStringBuilder", name := "isLatin1", desc := "()Z" } : Jvm.MethodName) jdk_68_method_68_code (1 : Nat) (Option.some Jvm.ClassFile.FieldType.boolean), Jvm.Cond.code ({ cls := "java/util/Arrays", name := "copyOfRange", desc := "([BII)[B" } : Jvm.MethodName) jdk_65_method_132_code (3 : Nat) (Option.some (Jvm.ClassFile.FieldType.array Jvm.ClassFile.FieldType.byte)), Jvm.Cond.code ({ cls := "com/example/model_check_sql/modelchecksql/model/ModelFormatException", name := "<init>", desc := "(Ljava/lang/String;)V" } : Jvm.MethodName) prog_20_method_1_code (2 : Nat) (Option.none : Option Jvm.ClassFile.FieldType), Jvm.Cond.code ({ cls := "java/lang/IllegalArgumentException", name := "<init>", desc := "(Ljava/lang/String;)V" } : Jvm.MethodName) jdk_57_method_2_code (2 : Nat) (Option.none : Option Jvm.ClassFile.FieldType), Jvm.Cond.code ({ cls := "java/lang/RuntimeException", name := "<init>", desc := "(Ljava/lang/String;)V" } : Jvm.MethodName) jdk_58_method_2_code (2 : Nat) (Option.none : Option Jvm.ClassFile.FieldType), Jvm.Cond.code ({ cls := "java/lang/Exception", name := "<init>", desc := "(Ljava/lang/String;)V" } : Jvm.MethodName) jdk_59_method_2_code (2 : Nat) (Option.none : Option Jvm.ClassFile.FieldType), Jvm.Cond.code ({ cls := "java/lang/Throwable", name := "<init>", desc := "(Ljava/lang/String;)V" } : Jvm.MethodName) jdk_78_method_2_code (2 : Nat) (Option.none : Option Jvm.ClassFile.FieldType), Jvm.Cond.code ({ cls := "java/lang/Throwable", name := "<init>", desc := "()V" } : Jvm.MethodName) jdk_78_method_1_code (1 : Nat) (Option.none : Option Jvm.ClassFile.FieldType), Jvm.Cond.code ({ cls := "java/lang/Throwable", name := "getMessage", desc := "()Ljava/lang/String;" } : Jvm.MethodName) jdk_78_method_6_code (1 : Nat) (Option.some (Jvm.ClassFile.FieldType.object "java/lang/String")), Jvm.Cond.code ({ cls := "java/lang/String", name := "equals", desc := "(Ljava/lang/Object;)Z" } : Jvm.MethodName) jdk_42_method_66_code (3 : Nat) (Option.some Jvm.ClassFile.FieldType.boolean), Jvm.Cond.code ({ cls := "java/lang/StringLatin1", name := "equals", desc := "([B[B)Z" } : Jvm.MethodName) jdk_43_method_13_code (3 : Nat) (Option.some Jvm.ClassFile.FieldType.boolean), Jvm.Cond.code ({ cls := "java/lang/String", name := "<init>", desc := "([C)V" } : Jvm.MethodName) jdk_42_method_3_code (2 : Nat) (Option.none : Option Jvm.ClassFile.FieldType), Jvm.Cond.code ({ cls := "java/lang/String", name := "<init>", desc := "([CIILjava/lang/Void;)V" } : Jvm.MethodName) jdk_42_method_149_code (6 : Nat) (Option.none : Option Jvm.ClassFile.FieldType), Jvm.Cond.code ({ cls := "java/lang/StringUTF16", name := "compress", desc := "([CII)[B" } : Jvm.MethodName) jdk_52_method_16_code (6 : Nat) (Option.some (Jvm.ClassFile.FieldType.array Jvm.ClassFile.FieldType.byte)), Jvm.Cond.code ({ cls := "java/lang/StringUTF16", name := "compress", desc := "([CI[BII)I" } : Jvm.MethodName) jdk_52_method_21_code (7 : Nat) (Option.some Jvm.ClassFile.FieldType.int), Jvm.Cond.code ({ cls := "java/lang/StringUTF16", name := "coderFromArrayLen", desc := "([BI)B" } : Jvm.MethodName) jdk_52_method_15_code (2 : Nat) (Option.some Jvm.ClassFile.FieldType.byte), Jvm.Cond.code ({ cls := "java/lang/StringUTF16", name := "toBytes", desc := "([CII)[B" } : Jvm.MethodName) jdk_52_method_14_code (5 : Nat) (Option.some (Jvm.ClassFile.FieldType.array Jvm.ClassFile.FieldType.byte)), Jvm.Cond.code ({ cls := "java/lang/StringUTF16", name := "newBytesFor", desc := "(I)[B" } : Jvm.MethodName) jdk_52_method_2_code (1 : Nat) (Option.some (Jvm.ClassFile.FieldType.array Jvm.ClassFile.FieldType.byte)), Jvm.Cond.code ({ cls := "java/lang/StringUTF16", name := "newBytesLength", desc := "(I)I" } : Jvm.MethodName) jdk_52_method_3_code (1 : Nat) (Option.some Jvm.ClassFile.FieldType.int), Jvm.Cond.code ({ cls := "java/lang/StringUTF16", name := "putChar", desc := "([BII)V" } : Jvm.MethodName) jdk_52_method_4_code (3 : Nat) (Option.none : Option Jvm.ClassFile.FieldType), Jvm.Cond.code ({ cls := "java/lang/StringUTF16", name := "getChar", desc := "([BI)C" } : Jvm.MethodName) jdk_52_method_5_code (2 : Nat) (Option.some Jvm.ClassFile.FieldType.char), Jvm.Cond.code ({ cls := "java/lang/AbstractStringBuilder", name := "inflate", desc := "()V" } : Jvm.MethodName) jdk_68_method_11_code (2 : Nat) (Option.none : Option Jvm.ClassFile.FieldType), Jvm.Cond.code ({ cls := "java/lang/StringLatin1", name := "inflate", desc := "([BI[BII)V" } : Jvm.MethodName) jdk_43_method_50_code (5 : Nat) (Option.none : Option Jvm.ClassFile.FieldType), Jvm.Cond.code ({ cls := "java/lang/StringUTF16", name := "inflate", desc := "([BI[BII)V" } : Jvm.MethodName) jdk_52_method_86_code (6 : Nat) (Option.none : Option Jvm.ClassFile.FieldType), Jvm.Cond.code ({ cls := "java/lang/StringUTF16", name := "checkBoundsOffCount", desc := "(II[B)V" } : Jvm.MethodName) jdk_52_method_94_code (3 : Nat) (Option.none : Option Jvm.ClassFile.FieldType), Jvm.Cond.code ({ cls := "java/lang/StringUTF16", name := "length", desc := "([B)I" } : Jvm.MethodName) jdk_52_method_6_code (1 : Nat) (Option.some Jvm.ClassFile.FieldType.int), Jvm.Cond.code ({ cls := "java/lang/String", name := "checkBoundsOffCount", desc := "(III)I" } : Jvm.MethodName) jdk_42_method_157_code (3 : Nat) (Option.some Jvm.ClassFile.FieldType.int), Jvm.Cond.code ({ cls := "jdk/internal/util/Preconditions", name := "checkFromIndexSize", desc := "(IIILjava/util/function/BiFunction;)I" } : Jvm.MethodName) jdk_41_method_13_code (4 : Nat) (Option.some Jvm.ClassFile.FieldType.int), Jvm.Cond.code ({ cls := "java/lang/String", name := "valueOf", desc := "(C)Ljava/lang/String;" } : Jvm.MethodName) jdk_42_method_139_code (1 : Nat) (Option.some (Jvm.ClassFile.FieldType.object "java/lang/String")), Jvm.Cond.code ({ cls := "java/lang/StringLatin1", name := "canEncode", desc := "(C)Z" } : Jvm.MethodName) jdk_43_method_3_code (1 : Nat) (Option.some Jvm.ClassFile.FieldType.boolean), Jvm.Cond.code ({ cls := "java/lang/StringLatin1", name := "toBytes", desc := "(C)[B" } : Jvm.MethodName) jdk_43_method_46_code (1 : Nat) (Option.some (Jvm.ClassFile.FieldType.array Jvm.ClassFile.FieldType.byte)), Jvm.Cond.code ({ cls := "java/lang/String", name := "<init>", desc := "([BB)V" } : Jvm.MethodName) jdk_42_method_151_code (3 : Nat) (Option.none : Option Jvm.ClassFile.FieldType), Jvm.Cond.code ({ cls := "java/lang/StringUTF16", name := "toBytes", desc := "(C)[B" } : Jvm.MethodName) jdk_52_method_24_code (2 : Nat) (Option.some (Jvm.ClassFile.FieldType.array Jvm.ClassFile.FieldType.byte))]
set_option maxRecDepth 65536 in
theorem codes_eq : words1.filter isCode = codes1 := rfl
theorem w_codes : ∀ c ∈ words1.filter isCode, c.before args0 about1 = true := by
  rw [codes_eq]
  intro c hc
  simp only [codes1, List.mem_cons, List.not_mem_nil, or_false] at hc
  rcases hc with rfl | rfl | rfl | rfl | rfl | rfl | rfl | rfl | rfl | rfl | rfl | rfl | rfl | rfl | rfl | rfl | rfl | rfl | rfl | rfl | rfl | rfl | rfl | rfl | rfl | rfl | rfl | rfl | rfl | rfl | rfl | rfl | rfl | rfl | rfl | rfl | rfl | rfl | rfl | rfl | rfl | rfl | rfl | rfl | rfl | rfl | rfl | rfl | rfl | rfl | rfl | rfl | rfl | rfl | rfl | rfl | rfl
  · exact w_c0
  · exact w_c1
  · exact w_c2
  · exact w_c3
  · exact w_c4
  · exact w_c5
  · exact w_c6
  · exact w_c7
  · exact w_c8
  · exact w_c9
  · exact w_c10
  · exact w_c11
  · exact w_c12
  · exact w_c13
  · exact w_c14
  · exact w_c15
  · exact w_c16
  · exact w_c17
  · exact w_c18
  · exact w_c19
  · exact w_c20
  · exact w_c21
  · exact w_c22
  · exact w_c23
  · exact w_c24
  · exact w_c25
  · exact w_c26
  · exact w_c27
  · exact w_c28
  · exact w_c29
  · exact w_c30
  · exact w_c31
  · exact w_c32
  · exact w_c33
  · exact w_c34
  · exact w_c35
  · exact w_c36
  · exact w_c37
  · exact w_c38
  · exact w_c39
  · exact w_c40
  · exact w_c41
  · exact w_c42
  · exact w_c43
  · exact w_c44
  · exact w_c45
  · exact w_c46
  · exact w_c47
  · exact w_c48
  · exact w_c49
  · exact w_c50
  · exact w_c51
  · exact w_c52
  · exact w_c53
  · exact w_c54
  · exact w_c55
  · exact w_c56
set_option maxRecDepth 65536 in
theorem w_t1 : (words1.take 24).all (fun c => isCode c || c.before args0 about1) = true := by decide +kernel
set_option maxRecDepth 65536 in
theorem w_t2 : ((words1.drop 24).take 24).all (fun c => isCode c || c.before args0 about1) = true := by decide +kernel
set_option maxRecDepth 65536 in
theorem w_t3 : (((words1.drop 24).drop 24).take 24).all (fun c => isCode c || c.before args0 about1) = true := by decide +kernel
set_option maxRecDepth 65536 in
theorem w_t4 : ((((words1.drop 24).drop 24).drop 24).take 24).all (fun c => isCode c || c.before args0 about1) = true := by decide +kernel
set_option maxRecDepth 65536 in
theorem w_t5 : (((((words1.drop 24).drop 24).drop 24).drop 24).take 24).all (fun c => isCode c || c.before args0 about1) = true := by decide +kernel
set_option maxRecDepth 65536 in
theorem w_t6 : ((((((words1.drop 24).drop 24).drop 24).drop 24).drop 24).take 24).all (fun c => isCode c || c.before args0 about1) = true := by decide +kernel
set_option maxRecDepth 65536 in
theorem w_t7 : (((((((words1.drop 24).drop 24).drop 24).drop 24).drop 24).drop 24).take 24).all (fun c => isCode c || c.before args0 about1) = true := by decide +kernel
set_option maxRecDepth 65536 in
theorem w_t8 : ((((((((words1.drop 24).drop 24).drop 24).drop 24).drop 24).drop 24).drop 24).take 24).all (fun c => isCode c || c.before args0 about1) = true := by decide +kernel
set_option maxRecDepth 65536 in
theorem w_t9 : (((((((((words1.drop 24).drop 24).drop 24).drop 24).drop 24).drop 24).drop 24).drop 24).take 24).all (fun c => isCode c || c.before args0 about1) = true := by decide +kernel
set_option maxRecDepth 65536 in
theorem w_t10 : ((((((((((words1.drop 24).drop 24).drop 24).drop 24).drop 24).drop 24).drop 24).drop 24).drop 24).take 24).all (fun c => isCode c || c.before args0 about1) = true := by decide +kernel
set_option maxRecDepth 65536 in
theorem w_t11 : (((((((((((words1.drop 24).drop 24).drop 24).drop 24).drop 24).drop 24).drop 24).drop 24).drop 24).drop 24).take 24).all (fun c => isCode c || c.before args0 about1) = true := by decide +kernel
set_option maxRecDepth 65536 in
theorem w_t12 : ((((((((((((words1.drop 24).drop 24).drop 24).drop 24).drop 24).drop 24).drop 24).drop 24).drop 24).drop 24).drop 24).take 24).all (fun c => isCode c || c.before args0 about1) = true := by decide +kernel
set_option maxRecDepth 65536 in
theorem w_t13 : (((((((((((((words1.drop 24).drop 24).drop 24).drop 24).drop 24).drop 24).drop 24).drop 24).drop 24).drop 24).drop 24).drop 24).take 24).all (fun c => isCode c || c.before args0 about1) = true := by decide +kernel
set_option maxRecDepth 65536 in
theorem w_t14 : (((((((((((((words1.drop 24).drop 24).drop 24).drop 24).drop 24).drop 24).drop 24).drop 24).drop 24).drop 24).drop 24).drop 24).drop 24).all (fun c => isCode c || c.before args0 about1) = true := by decide +kernel
theorem w_tables : (allAtoms (Jvm.Cond.code x code maxLocals ret :: tables_1)).before args0 about1 = true := by
  rw [allAtoms_all]
  show words1.all (fun c => c.before args0 about1) = true
  refine all_split ?_ w_codes
  rw [← List.take_append_drop 24 words1, List.all_append, w_t1, ← List.take_append_drop 24 (words1.drop 24), List.all_append, w_t2, ← List.take_append_drop 24 ((words1.drop 24).drop 24), List.all_append, w_t3, ← List.take_append_drop 24 (((words1.drop 24).drop 24).drop 24), List.all_append, w_t4, ← List.take_append_drop 24 ((((words1.drop 24).drop 24).drop 24).drop 24), List.all_append, w_t5, ← List.take_append_drop 24 (((((words1.drop 24).drop 24).drop 24).drop 24).drop 24), List.all_append, w_t6, ← List.take_append_drop 24 ((((((words1.drop 24).drop 24).drop 24).drop 24).drop 24).drop 24), List.all_append, w_t7, ← List.take_append_drop 24 (((((((words1.drop 24).drop 24).drop 24).drop 24).drop 24).drop 24).drop 24), List.all_append, w_t8, ← List.take_append_drop 24 ((((((((words1.drop 24).drop 24).drop 24).drop 24).drop 24).drop 24).drop 24).drop 24), List.all_append, w_t9, ← List.take_append_drop 24 (((((((((words1.drop 24).drop 24).drop 24).drop 24).drop 24).drop 24).drop 24).drop 24).drop 24), List.all_append, w_t10, ← List.take_append_drop 24 ((((((((((words1.drop 24).drop 24).drop 24).drop 24).drop 24).drop 24).drop 24).drop 24).drop 24).drop 24), List.all_append, w_t11, ← List.take_append_drop 24 (((((((((((words1.drop 24).drop 24).drop 24).drop 24).drop 24).drop 24).drop 24).drop 24).drop 24).drop 24).drop 24), List.all_append, w_t12, ← List.take_append_drop 24 ((((((((((((words1.drop 24).drop 24).drop 24).drop 24).drop 24).drop 24).drop 24).drop 24).drop 24).drop 24).drop 24).drop 24), List.all_append, w_t13, w_t14]
  rfl
set_option maxRecDepth 65536 in
theorem w_rest : rest_1_c.before args0 about1 = true := by decide +kernel
set_option maxRecDepth 65536 in
theorem w_case : (Jvm.Cond.and given_1 narrow_1).before args0 about1 = true := by decide +kernel
set_option maxRecDepth 65536 in
theorem w_consts : constsHeld consts_1 about1 := Jvm.Lit.constsHeldB_iff.mp (by decide +kernel)
theorem w_applies : (headSpec (Jvm.Cond.code x code maxLocals ret :: tables_1) room_1).applies x e0.platform about1 = true :=
  (Spec.applies_iff w_frames).mpr ⟨w_running, w_runnable, w_alone, w_named, w_hears, w_ripe, w_room, w_tables⟩
theorem atStart : AtStart classFile x code maxLocals ret World_1 tables_1 room_1 Calls_1 rest_1 Pre_1 launch0 p0 e0 about1 theMethod args0 below0 :=
  ⟨lists_1, trivial, launch0.admits_env _ _ _, launch0.least_env, fairChoices_fair.cas, fairChoices_fair.clock, w_frames, w_args, w_heap, w_applies, ⟨(by decide +kernel : framesKnown about1 = true), ⟨(by decide +kernel : tablesKnown about1 = true), ⟨w_consts, trivial⟩⟩⟩, w_rest, w_case⟩
end start1
theorem witness_1 : WitnessClaimed_1 := ⟨start1.p0, start1.e0, start1.about1, start1.theMethod, start1.args0, start1.below0, start1.atStart⟩
end Jvm.Pilot.@@N@@
