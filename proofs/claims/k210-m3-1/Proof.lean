import JvmDerived
import JvmDerived.Pilot.@@N@@Statement
import JvmDerived.Pilot.@@N@@Code
set_option linter.unusedVariables false
set_option linter.unusedSimpArgs false
namespace Jvm.Pilot.@@N@@
open Jvm Jvm.ClassFile Sem Op Lib Jvm.Free Jvm.Stand Jvm.LawKit Jvm.RoadKit Bundle Jvm.Pilot.@@N@@.Jvm.D
theorem ql {a b c : Nat} (h : a ≤ b) (k : b ≤ c) : a ≤ c := Nat.le_trans h k
def qG (p : Program) (e : Env) (below : List Frame) (P : Outcome → State → Prop) (st : State) : Prop :=
  ∃ s₂ o, Steps p.tables e below st s₂ ∧ s₂.status = .running ∧ Ended s₂ below o ∧ P o s₂
def own_Fin (s : State) (C S : Nat) (Q : Option Value → Heap → List Loc → Prop) (o : Outcome) (U : State) : Prop := ∃ v L, o = .returned v ∧ Q v U.heap L ∧ FrameEnd s o U L C S
def qu {α : Type} (f : Nat → α) (j : Nat) (v : α) : Nat → α := fun i => if i = j then v else f i
def qA (Z : State) (h : Heap) (a : Addr) (k : ClassId) (ty : FieldType) (n : Int32) (f : Nat → Value) : Prop := ∃ c : Cell, Arr Z h a c ty ∧ c.cls = k ∧ c.slots.size = n.toNatClampNeg ∧ ¬ n < 0 ∧ (∀ i, i < c.slots.size → c.slots[i]? = some (f i)) ∧ ∀ i, i < c.slots.size → fits ty (f i) = true
section OwnKit
variable {p : Program} {l : Launch} {e : Env} {R : Room} {s : State} {m : MethodId} {args : Array Value} {below : List Frame} {meth : Method} {c : Code} {T : State} {locs : List Loc} {cells slots C S : Nat} {P : Outcome → State → Prop} {Q : Option Value → Heap → List Loc → Prop} {Z : State} {h h' : Heap} {a b : Addr} {k : ClassId} {ty : FieldType} {n : Int32} {ws : List Addr}
theorem qb {st st' : State} (f : ∀ t, Steps p.tables e below st' t → Steps p.tables e below st t) (g : qG p e below P st') : qG p e below P st := by
  obtain ⟨s₂, o, h1, h2⟩ := g
  exact ⟨s₂, o, f _ h1, h2⟩
theorem own_mono (X : Stand p l e R s m args below meth c T locs cells slots) {c' s' : Nat} (hc : cells ≤ c') (hs : slots ≤ s') : Stand p l e R s m args below meth c T locs c' s' := { X with same := X.same.mono hc hs }
theorem own_end (X : Stand p l e R s m args below meth c T locs cells slots) {v : Option Value} (hv : meth.sig.returnType = none → v = none) (hlk : meth.locks = false) (eT : T.heap = h) (hQ : Q v h locs) (hc : cells ≤ C) (hs : slots ≤ S)
    {g : JFrame} (st : ∀ fs, (∀ (f : JFrame) (acts : List Action), f.method = m → f.locked = none → f.entered = [] → (doReturn e (T.setTop f) acts v).1 = T.setFrames fs) → Steps p.tables e below (T.setTop g) (T.setFrames fs)) : qG p e below (own_Fin s C S Q) (T.setTop g) := by
  obtain ⟨fs, hr, hrun, hended, hW, hsame⟩ := X.leave (v := v) hv hlk
  refine ⟨_, _, st fs hr, hrun, hended, v, locs, rfl, ?_, ⟨_, rfl⟩, hW, hsame.mono hc hs⟩
  show Q v T.heap locs
  rw [eT]; exact hQ
theorem own_retN (X : Stand p l e R s m args below meth c T locs cells slots) (hx : p.tables.exec = Jvm.exec) {pc : Nat} {Ls : Array Slot} {z : Int32} {t : FieldType} {rest : List Value} (hret : meth.sig.returnType = some t) (ht : t = .boolean ∨ t = .byte ∨ t = .char ∨ t = .short) (hd : decode c.code pc = .ok (.ireturn, 1)) (hlk : meth.locks = false) (eT : T.heap = h) (hQ : Q (some (.int (nar t z))) h locs) (hc : cells ≤ C) (hs : slots ≤ S) : qG p e below (own_Fin s C S Q) (T.setTop (mkF m pc Ls (.int z :: rest))) :=
  own_end X (fun h => by rw [hret] at h; cases h) hlk eT hQ hc hs fun fs hr => retN X hx hret ht hd hr
theorem own_retI (X : Stand p l e R s m args below meth c T locs cells slots) (hx : p.tables.exec = Jvm.exec) {pc : Nat} {Ls : Array Slot} {z : Int32} {rest : List Value} (hret : meth.sig.returnType = some .int) (hd : decode c.code pc = .ok (.ireturn, 1)) (hlk : meth.locks = false) (eT : T.heap = h) (hQ : Q (some (.int z)) h locs) (hc : cells ≤ C) (hs : slots ≤ S) : qG p e below (own_Fin s C S Q) (T.setTop (mkF m pc Ls (.int z :: rest))) :=
  own_end X (fun h => by rw [hret] at h; cases h) hlk eT hQ hc hs fun fs hr => retOut X hx hret rfl (Or.inl ⟨rfl, Or.inl rfl, _, rfl⟩) hd hr
theorem own_retD (X : Stand p l e R s m args below meth c T locs cells slots) (hx : p.tables.exec = Jvm.exec) {pc : Nat} {Ls : Array Slot} {z : UInt64} {rest : List Value} (hret : meth.sig.returnType = some .double) (hd : decode c.code pc = .ok (.dreturn, 1)) (hlk : meth.locks = false) (eT : T.heap = h) (hQ : Q (some (.double z)) h locs) (hc : cells ≤ C) (hs : slots ≤ S) : qG p e below (own_Fin s C S Q) (T.setTop (mkF m pc Ls (.double z :: rest))) :=
  own_end X (fun h => by rw [hret] at h; cases h) hlk eT hQ hc hs fun fs hr => retOut X hx hret rfl (Or.inr (Or.inr (Or.inl ⟨rfl, rfl, _, rfl⟩))) hd hr
theorem own_retR (X : Stand p l e R s m args below meth c T locs cells slots) (hx : p.tables.exec = Jvm.exec) {pc : Nat} {Ls : Array Slot} {w : Value} {t : FieldType} {rest : List Value} (hret : meth.sig.returnType = some t) (ht : t.isReference = true) (hw : w.isRef = true) (hd : decode c.code pc = .ok (.areturn, 1)) (hlk : meth.locks = false) (eT : T.heap = h) (hQ : Q (some w) h locs) (hc : cells ≤ C) (hs : slots ≤ S) : qG p e below (own_Fin s C S Q) (T.setTop (mkF m pc Ls (w :: rest))) :=
  own_end X (fun h => by rw [hret] at h; cases h) hlk eT hQ hc hs fun fs hr => retOut X hx hret (by cases t <;> first | rfl | (cases w <;> first | rfl | cases hw) | (cases ht)) (Or.inr (Or.inr (Or.inr (Or.inr ⟨rfl, ht, hw⟩)))) hd hr
theorem own_ret0 (X : Stand p l e R s m args below meth c T locs cells slots) (hx : p.tables.exec = Jvm.exec) {pc : Nat} {Ls : Array Slot} (hret : meth.sig.returnType = none) (hd : decode c.code pc = .ok (.return_, 1)) (hlk : meth.locks = false) (eT : T.heap = h) (hQ : Q none h locs) (hc : cells ≤ C) (hs : slots ≤ S) : qG p e below (own_Fin s C S Q) (T.setTop (mkF m pc Ls [])) :=
  own_end X (fun _ => rfl) hlk eT hQ hc hs fun fs hr => X.returnOut hx hret hd hr
theorem qA.lt {f : Nat → Value} (F : qA Z h a k ty n f) : a < h.size := by obtain ⟨c, A, -⟩ := F; exact A.lt
theorem qA.ext {f : Nat → Value} (F : qA Z h a k ty n f) (E : Ext h h') : qA Z h' a k ty n f := by obtain ⟨c, A, r⟩ := F; exact ⟨c, A.ext E, r⟩
theorem qA.other {f : Nat → Value} {sl : Nat} {v : Value} (F : qA Z h b k ty n f) (W : Wr h h' a sl v) (q : b ≠ a) : qA Z h' b k ty n f := by obtain ⟨c, A, r⟩ := F; exact ⟨c, A.other W q, r⟩
theorem qA.keep {f : Nat → Value} (F : qA Z h a k ty n f) (K : Keep h h' ws) (q : a ∉ ws) : qA Z h' a k ty n f := by obtain ⟨c, A, r⟩ := F; exact ⟨c, ⟨K.2.1 a c A.1 q, A.2⟩, r⟩
theorem own_arfNew (A : Arr Z h a (newA k ty n) ty) (q : ¬ n < 0) : qA Z h a k ty n (fun _ => defaultValue ty) := ⟨_, A, rfl, sz_new _ _ _, q, fun i hi => by
  rw [sz_new] at hi; simp [newA, hi], fun i _ => by cases ty <;> rfl⟩
theorem own_arfSet {cl : Cell} {f : Nat → Value} {j : Nat} {v : Value} (A : Arr Z h a cl ty) (q1 : cl.cls = k) (S : cl.slots.size = n.toNatClampNeg) (q3 : ¬ n < 0) (H : ∀ i, i < cl.slots.size → cl.slots[i]? = some (f i)) (G : ∀ i, i < cl.slots.size → fits ty (f i) = true) (hv : fits ty v = true) (W : Wr h h' a j v) : qA Z h' a k ty n (qu f j v) := by
  refine ⟨_, A.same W, q1, by rw [sz_set]; exact S, q3, fun i hi => ?_, fun i hi => ?_⟩
  · rw [sz_set] at hi
    by_cases u : j = i
    · subst u; simp [Cell.setSlot, hi, qu]
    · have := H i hi; simp only [Cell.setSlot] at this ⊢
      rw [Array.getElem?_setIfInBounds_ne u, this]; simp [qu, Ne.symm u]
  · rw [sz_set] at hi
    by_cases u : j = i
    · subst u; simpa [qu] using hv
    · have := G i hi; simpa [qu, Ne.symm u] using this
theorem own_arfSetI {cl : Cell} {f : Nat → Int32} {j : Nat} {v : Int32} (A : Arr Z h a cl ty) (q1 : cl.cls = k) (S : cl.slots.size = n.toNatClampNeg) (q3 : ¬ n < 0) (H : ∀ i, i < cl.slots.size → cl.slots[i]? = some (.int (f i))) (G : ∀ i, i < cl.slots.size → fits ty (.int (f i)) = true) (hv : fits ty (.int v) = true) (W : Wr h h' a j (.int v)) : qA Z h' a k ty n (fun i => .int (qu f j v i)) := by
  have q := own_arfSet (f := fun i => .int (f i)) A q1 S q3 H G hv W
  have e : (qu (fun i => Value.int (f i)) j (.int v)) = (fun i => .int (qu f j v i)) := by funext i; simp only [qu]; split <;> rfl
  rw [← e]; exact q
theorem own_neArr {A0 : Array Value} {C : String} {kk : Nat} {f : Nat → Value} (F : Exa Z h a C) (wi : (Cond.instantiable C kk).before A0 Z = true) (G : qA Z h b k ty n f) : a ≠ b := by
  obtain ⟨c, A, -⟩ := G
  exact ne_arr F wi A
theorem own_selPriv {Z s : State} {A0 args : Array Value} {y : MethodName} {n : Nat} (hZ : Z.Warmed39 s.vm) (wi : (Cond.instantiable y.cls n).before A0 Z = true) (wp : (Cond.privateMethod y).before A0 Z = true) (wm : (Cond.instanceMethod y).before A0 Z = true) (hy : y.cls ≠ "java/lang/invoke/MethodHandle" ∧ y.cls ≠ "java/lang/invoke/VarHandle") : (Cond.selects y.cls y y).before args s = true := by
  have wi' : (Cond.instantiable y.cls n).before args s = true := mvT hZ wi
  obtain ⟨c, k, h1, h2, h3, h4, -⟩ := Cond.instantiable_spec wi'
  refine selects_self_of_private h1 h2 ?_ (Cond.privateMethod_at (mvP hZ wp (args := args))) (mvT hZ wm) hy
  cases hi : k.isInterface <;> simp_all
theorem qx {C : String} (E : Exa Z h a C) : ∀ c : Cell, h[a]? = some c → c.vm.isStatics = false := fun c hc => by
  obtain ⟨cell, k, h1, -, -, h4, -⟩ := E
  cases h1.symm.trans hc; exact h4
theorem qk {C nn d : String} {w : Value} (F : Sta Z h C nn d w) (K : Keep h h' ws) (hp : ∀ x ∈ ws, ∀ c : Cell, h[x]? = some c → c.vm.isStatics = false) : Sta Z h' C nn d w := by
  obtain ⟨cf, i, k, f, st, cell, h1, h2, h3, h4, h5, h6, h7⟩ := F
  have hn : st ∉ ws := fun hm => by have := hp st hm cell h5; rw [h6] at this; cases this
  exact ⟨cf, i, k, f, st, cell, h1, h2, h3, h4, K.2.1 st cell h5 hn, h6, h7⟩
end OwnKit

abbrev qM (l : Launch) (Z : State) (y : MethodName) (bytes : ByteArray) (maxL : Nat) (ret : Option FieldType) (ws : List Cond) (rm : Room) (A : Array Value) (h0 : Heap) (Q : Option Value → Heap → List Loc → Prop) (C S : Nat) : Prop :=
  MetFree l y (head1 (Cond.code y bytes maxL ret :: ws) rm) (fun a U => a = A ∧ Z.Warmed39 U.vm ∧ U.heap = h0) (fun _ _ _ _ _ => True) (fun _ U o U' => ∃ v L, o = .returned v ∧ Q v U'.heap L ∧ FrameEnd U o U' L C S)
theorem own_enter {l : Launch} {Z : State} {y : MethodName} {bytes : ByteArray} {maxL : Nat} {ret : Option FieldType} {ws : List Cond} {rm : Room} {A : Array Value} {h0 : Heap} {Q : Option Value → Heap → List Loc → Prop} {C S : Nat} {F : MethodId → JFrame} (pl : plainFor y = true) (ef : ∀ m, entryFrame m A maxL = F m)
    (B : ∀ (p : Program) (e : Env) (s : State) (m : MethodId) (below : List Frame) (meth : Method) (c : Code) (s₁ : State), p.tables.exec = Jvm.exec → c.code = bytes → c.maxLocals = maxL → meth.locks = false → s.vm.findClass y.cls = some m.cls → meth.name = y.name → Stand p l e rm s m A below meth c s₁ [] 0 0 → s₁.heap = h0 → Z.Warmed39 s.vm → meth.sig.returnType = ret → qG p e below (own_Fin s C S Q) (s₁.setTop (F m))) :
    qM l Z y bytes maxL ret ws rm A h0 Q C S := by
  refine MetFree.of_bodySF pl hisR ?_
  intro p e s m args below meth c s₁ Bd hml0 hP hK
  obtain ⟨rfl, hZ, hh⟩ := hP
  rw [ef m]
  exact B p e s m below meth c s₁ Bd.exec Bd.bytes hml0 Bd.notSynchronized (findClass_of_methodNamed Bd.named) (name_of_methodNamed Bd.named Bd.method).1 (Stand.of_body Bd) (by rw [← hh, Bd.state]; rfl) hZ Bd.returns
def own_ds (code : ByteArray) (l : List (Nat × Instr × Nat)) : Bool := l.all fun q => decide (decode code q.1 = .ok (q.2.1, q.2.2))
theorem own_e {c : Code} {code : ByteArray} {l : List (Nat × Instr × Nat)} (hby : c.code = code) (h : own_ds code l = true) (i : Nat) {pc : Nat} {ins : Instr} {len : Nat} (hi : l[i]? = some (pc, ins, len)) : decode c.code pc = .ok (ins, len) := by
  rw [hby]
  have h' : (l.all fun q => decide (decode code q.1 = .ok (q.2.1, q.2.2))) = true := h
  have q : decide (decode code pc = .ok (ins, len)) = true := List.all_eq_true.mp h' (pc, ins, len) (List.mem_of_getElem? hi)
  exact of_decide_eq_true q
theorem qe {l : Launch} {Z : State} {y : MethodName} {bytes : ByteArray} {maxL : Nat} {ret : Option FieldType} {ws : List Cond} {rm : Room} {A : Array Value} {h0 : Heap} {Q : Option Value → Heap → List Loc → Prop} {C S : Nat} {F : MethodId → JFrame} {ll : List (Nat × Instr × Nat)} (ds : own_ds bytes ll = true) (pl : plainFor y = true) (ef : ∀ m, entryFrame m A maxL = F m)
    (B : ∀ (p : Program) (e : Env) (s : State) (m : MethodId) (below : List Frame) (meth : Method) (c : Code) (s₁ : State), p.tables.exec = Jvm.exec → (∀ (i : Nat) {pc : Nat} {ins : Instr} {len : Nat}, ll[i]? = some (pc, ins, len) → decode c.code pc = .ok (ins, len)) → c.maxLocals = maxL → meth.locks = false → s.vm.findClass y.cls = some m.cls → meth.name = y.name → Stand p l e rm s m A below meth c s₁ [] 0 0 → s₁.heap = h0 → Z.Warmed39 s.vm → meth.sig.returnType = ret → qG p e below (own_Fin s C S Q) (s₁.setTop (F m))) :
    qM l Z y bytes maxL ret ws rm A h0 Q C S :=
  own_enter pl ef fun p e s m below meth c s₁ h1 h2 => B p e s m below meth c s₁ h1 (fun i _ _ _ q => own_e h2 ds i q)
section OwnCall
variable {p : Program} {l : Launch} {e : Env} {R rm : Room} {s : State} {m : MethodId} {args a0 : Array Value} {below : List Frame} {meth : Method} {c : Code} {T Z : State} {locs : List Loc} {cells slots ix maxL ML : Nat} {h : Heap} {own C : String} {y : MethodName} {bytes : ByteArray} {ret r : Option FieldType} {Q : Option Value → Heap → List Loc → Prop} {ps : List FieldType} {g : JFrame} {argsL rest : List Value} {a : Addr}
def qr (R rm : Room) (maxL cells slots W : Nat) : Bool := Nat.ble (rm.frames + 1) R.frames && (Nat.ble (W + (maxL + 11) + rm.locals) R.locals && (Nat.ble (cells + rm.cells) R.cells && Nat.ble (slots + rm.slots) R.slots))
theorem own_rmS {W : Nat} (q : qr R rm maxL cells slots W = true) : rm.frames + 1 ≤ R.frames ∧ W + (maxL + 11) + rm.locals ≤ R.locals ∧ cells + rm.cells ≤ R.cells ∧ slots + rm.slots ≤ R.slots := by
  simp only [qr, Bool.and_eq_true] at q
  exact ⟨Nat.le_of_ble_eq_true q.1, Nat.le_of_ble_eq_true q.2.1, Nat.le_of_ble_eq_true q.2.2.1, Nat.le_of_ble_eq_true q.2.2.2⟩
abbrev own_W (g : JFrame) (rest : List Value) : Nat := 2 * g.monitorRoom + (rest.map fun v => v.category).sum
abbrev qE (p : Program) (l : Launch) (e : Env) (R : Room) (s : State) (m : MethodId) (args : Array Value) (below : List Frame) (meth : Method) (c : Code) (T : State) (locs : List Loc) (cells slots : Nat) (rm : Room) (Q : Option Value → Heap → List Loc → Prop) (g : JFrame) (rest : List Value) : Prop :=
  ∃ (v : Option Value) (T' : State) (L : List Loc), Stand p l e R s m args below meth c T' (locs ++ L) (cells + rm.cells) (slots + rm.slots) ∧ Q v T'.heap L ∧ ∀ target, Steps p.tables e below (T'.setTop { g with pc := g.pc + 3, stack := v.toList ++ rest }) target → Steps p.tables e below (T.setTop g) target
abbrev own_hy (y : MethodName) : Prop := y.cls ≠ "java/lang/invoke/MethodHandle" ∧ y.cls ≠ "java/lang/invoke/VarHandle"
theorem own_cS (X : Stand p l e R s m args below meth c T locs cells slots) (hx : p.tables.exec = Jvm.exec) (hZ : Z.Warmed39 s.vm) (hown : s.vm.findClass own = some m.cls) (hml : c.maxLocals = ML) (hM : qM l Z y bytes maxL ret [] rm argsL.toArray h Q rm.cells rm.slots)
    (w1 : (Cond.methodLink own ix y).before a0 Z = true) (w2 : (Cond.static y).before a0 Z = true) (w3 : (Cond.initialized y.cls).before a0 Z = true) (w4 : (Cond.code y bytes maxL ret).before a0 Z = true) (hy : own_hy y) (hd : parseMethodDescriptor y.desc = some ⟨ps, r⟩) (eT : T.heap = h)
    (hg : g.method = m) (hs : g.locals.size = ML) (hn : argsL.length = ps.length) (hst : g.stack = argsL.reverse ++ rest) (dc : decode c.code g.pc = .ok (.invokestatic ix, 3)) (rq : qr R rm maxL cells slots (own_W g rest) = true) : qE p l e R s m args below meth c T locs cells slots rm Q g rest := by
  obtain ⟨q1, q2, q3, q4⟩ := own_rmS rq
  obtain ⟨v, _, ⟨T', L', k', n'⟩, -, X', ⟨L, hQ, z1, z2, z3⟩, st⟩ := Jvm.LawKit.callS X hx hown (mvT hZ w1) (mvT hZ w2) (mvT hZ w3) (mvT hZ w4) hy (backOf (W := own_W g rest) hM hZ w4 w3 q1 q2) (g := g) hg (hs.trans hml.symm) (lenOf hd hn) hst (Nat.le_refl _) dc (fun _ _ => ⟨rfl, eT, q3, q4⟩)
  dsimp only [Pt.U, Pt.locs, Pt.cells, Pt.slots] at X' hQ z1 z2 z3 st
  subst z1 z2 z3
  exact ⟨v, T', L, X', hQ, st⟩
theorem own_cI (X : Stand p l e R s m args below meth c T locs cells slots) (hx : p.tables.exec = Jvm.exec) (hZ : Z.Warmed39 s.vm) (hown : s.vm.findClass own = some m.cls) (hml : c.maxLocals = ML) (hM : qM l Z y bytes maxL none [] rm (.ref a :: argsL).toArray h Q rm.cells rm.slots)
    (w1 : (Cond.methodLink own ix y).before a0 Z = true) (w2 : (Cond.instanceMethod y).before a0 Z = true) (w3 : (Cond.initialized y.cls).before a0 Z = true) (w4 : (Cond.code y bytes maxL none).before a0 Z = true) (hy : own_hy y) (hd : parseMethodDescriptor y.desc = some ⟨ps, r⟩) (eT : T.heap = h)
    (hi : y.name = "<init>") (hg : g.method = m) (hs : g.locals.size = ML) (hn : argsL.length = ps.length) (hst : g.stack = argsL.reverse ++ .ref a :: rest) (dc : decode c.code g.pc = .ok (.invokespecial ix, 3)) (rq : qr R rm maxL cells slots (own_W g rest) = true) : qE p l e R s m args below meth c T locs cells slots rm Q g rest := by
  obtain ⟨q1, q2, q3, q4⟩ := own_rmS rq
  obtain ⟨v, _, ⟨T', L', k', n'⟩, -, X', ⟨L, hQ, z1, z2, z3⟩, st⟩ := X.specialBack hx hi hown (mvT hZ w1) (mvT hZ w2) (mvT hZ w4) hy (backOf (W := own_W g rest) hM hZ w4 w3 q1 q2) (g := g) hg (hs.trans hml.symm) (Steps.refl _) (lenOf hd hn) hst (Nat.le_refl _) dc (fun _ _ => ⟨rfl, eT, q3, q4⟩)
  dsimp only [Pt.U, Pt.locs, Pt.cells, Pt.slots] at X' hQ z1 z2 z3 st
  subst z1 z2 z3
  exact ⟨v, T', L, X', hQ, fun _ k => st.trans k⟩
theorem own_cV (X : Stand p l e R s m args below meth c T locs cells slots) (hx : p.tables.exec = Jvm.exec) (hZ : Z.Warmed39 s.vm) (hown : s.vm.findClass own = some m.cls) (hml : c.maxLocals = ML) (hM : qM l Z y bytes maxL ret [] rm (.ref a :: argsL).toArray h Q rm.cells rm.slots)
    (w1 : (Cond.methodLink own ix y).before a0 Z = true) (w2 : (Cond.instanceMethod y).before a0 Z = true) (w3 : (Cond.initialized y.cls).before a0 Z = true) (w4 : (Cond.code y bytes maxL ret).before a0 Z = true) (hy : own_hy y) (hd : parseMethodDescriptor y.desc = some ⟨ps, r⟩) (eT : T.heap = h)
    (w5 : (Cond.declares y).before a0 Z = true) (w6 : (Cond.selects C y y).before a0 Z = true) (ex : Exa Z h a C) (hg : g.method = m) (hs : g.locals.size = ML) (hn : argsL.length = ps.length) (hst : g.stack = argsL.reverse ++ .ref a :: rest) (dc : decode c.code g.pc = .ok (.invokevirtual ix, 3)) (rq : qr R rm maxL cells slots (own_W g rest) = true) : qE p l e R s m args below meth c T locs cells slots rm Q g rest := by
  obtain ⟨q1, q2, q3, q4⟩ := own_rmS rq
  obtain ⟨_, _, i1, -, i3⟩ := isOf hZ eT ex
  obtain ⟨v, _, ⟨T', L', k', n'⟩, -, X', ⟨L, hQ, z1, z2, z3⟩, st⟩ := X.virtualBack hx hown (mvT hZ w1) (mvT hZ w5) (notFace_of_selects (args := args) (mvT hZ w6)) (mvT hZ w6) (mvT hZ w2) hy (backOf (W := own_W g rest) hM hZ w4 w3 q1 q2) i1 i3 (g := g) hg (hs.trans hml.symm) (Steps.refl _) (lenOf hd hn) hst (Nat.le_refl _) dc (fun _ _ => ⟨rfl, eT, q3, q4⟩)
  dsimp only [Pt.U, Pt.locs, Pt.cells, Pt.slots] at X' hQ z1 z2 z3 st
  subst z1 z2 z3
  exact ⟨v, T', L, X', hQ, fun _ k => st.trans k⟩
theorem own_cP (X : Stand p l e R s m args below meth c T locs cells slots) (hx : p.tables.exec = Jvm.exec) (hZ : Z.Warmed39 s.vm) (hown : s.vm.findClass own = some m.cls) (hml : c.maxLocals = ML) (hM : qM l Z y bytes maxL ret [] rm (.ref a :: argsL).toArray h Q rm.cells rm.slots)
    (w1 : (Cond.methodLink own ix y).before a0 Z = true) (w2 : (Cond.instanceMethod y).before a0 Z = true) (w3 : (Cond.initialized y.cls).before a0 Z = true) (w4 : (Cond.code y bytes maxL ret).before a0 Z = true) (hy : own_hy y) (hd : parseMethodDescriptor y.desc = some ⟨ps, r⟩) (eT : T.heap = h)
    (w5 : (Cond.privateMethod y).before a0 Z = true) (hsel : (Cond.selects y.cls y y).before args s = true) (ex : Exa Z h a C) (hg : g.method = m) (hs : g.locals.size = ML) (hn : argsL.length = ps.length) (hst : g.stack = argsL.reverse ++ .ref a :: rest) (dc : decode c.code g.pc = .ok (.invokevirtual ix, 3)) (rq : qr R rm maxL cells slots (own_W g rest) = true) : qE p l e R s m args below meth c T locs cells slots rm Q g rest := by
  obtain ⟨q1, q2, q3, q4⟩ := own_rmS rq
  obtain ⟨_, i1, i2⟩ := ex.cell
  obtain ⟨v, _, ⟨T', L', k', n'⟩, -, X', ⟨L, hQ, z1, z2, z3⟩, st⟩ := X.privateBack hx hown (mvT hZ w1) (mvT hZ w2) hsel (Cond.privateMethod_at (mvP hZ w5 (args := args))) (mvT hZ w4) hy (backOf (W := own_W g rest) hM hZ w4 w3 q1 q2) (g := g) hg (hs.trans hml.symm) (Steps.refl _) (by rw [eT]; exact i1) i2 (lenOf hd hn) hst (Nat.le_refl _) dc (fun _ _ => ⟨rfl, eT, q3, q4⟩)
  dsimp only [Pt.U, Pt.locs, Pt.cells, Pt.slots] at X' hQ z1 z2 z3 st
  subst z1 z2 z3
  exact ⟨v, T', L, X', hQ, fun _ k => st.trans k⟩
abbrev own_End5 (p : Program) (l : Launch) (e : Env) (R : Room) (s : State) (m : MethodId) (args : Array Value) (below : List Frame) (meth : Method) (c : Code) (T : State) (locs : List Loc) (cells slots : Nat) (rm : Room) (Q : Option Value → Heap → List Loc → Prop) (g : JFrame) (rest : List Value) : Prop :=
  ∃ (v : Option Value) (T' : State) (L : List Loc), Stand p l e R s m args below meth c T' (locs ++ L) (cells + rm.cells) (slots + rm.slots) ∧ Q v T'.heap L ∧ ∀ target, Steps p.tables e below (T'.setTop { g with pc := g.pc + 5, stack := v.toList ++ rest }) target → Steps p.tables e below (T.setTop g) target
theorem own_cF {xi : MethodName} {cnt : Nat} (X : Stand p l e R s m args below meth c T locs cells slots) (hx : p.tables.exec = Jvm.exec) (hZ : Z.Warmed39 s.vm) (hown : s.vm.findClass own = some m.cls) (hml : c.maxLocals = ML) (hM : qM l Z y bytes maxL ret [] rm (.ref a :: argsL).toArray h Q rm.cells rm.slots)
    (w1 : (Cond.methodLink own ix xi).before a0 Z = true) (w2 : (Cond.instanceMethod y).before a0 Z = true) (w3 : (Cond.initialized y.cls).before a0 Z = true) (w4 : (Cond.code y bytes maxL ret).before a0 Z = true) (hy : own_hy xi) (hd : parseMethodDescriptor xi.desc = some ⟨ps, r⟩) (eT : T.heap = h)
    (w5 : (Cond.declares xi).before a0 Z = true) (w6 : (Cond.interfaceMethod xi.cls xi.cls xi.name xi.desc).before a0 Z = true) (fo : ((Cond.interfaceMethod xi.cls xi.cls xi.name xi.desc).onTables && (Cond.interfaceMethod xi.cls xi.cls xi.name xi.desc).keepsFace) = true) (w7 : (Cond.selects C xi y).before a0 Z = true) (w8 : (Cond.publicMethod y).before a0 Z = true) (w9 : (Cond.unhidden C xi.name xi.desc).before a0 Z = true) (w10 : (Cond.castable C xi.cls).before a0 Z = true) (ex : Exa Z h a C)
    (hg : g.method = m) (hs : g.locals.size = ML) (hn : argsL.length = ps.length) (hst : g.stack = argsL.reverse ++ .ref a :: rest) (dc : decode c.code g.pc = .ok (.invokeinterface ix cnt, 5)) (rq : qr R rm maxL cells slots (own_W g rest) = true) : own_End5 p l e R s m args below meth c T locs cells slots rm Q g rest := by
  obtain ⟨q1, q2, q3, q4⟩ := own_rmS rq
  obtain ⟨_, _, i1, i2, i3⟩ := isOf hZ eT ex
  obtain ⟨v, _, ⟨T', L', k', n'⟩, -, X', ⟨L, hQ, z1, z2, z3⟩, st⟩ := X.interfaceBack hx hown (mvT hZ w1) (mvT hZ w5) (mv hZ w6 fo) (mvT hZ w7) (mvT hZ w2) (mvT hZ w8) (mvT hZ w9) (mvT hZ w10) hy (backOf (W := own_W g rest) hM hZ w4 w3 q1 q2) i1 i2 i3 (g := g) hg (hs.trans hml.symm) (Steps.refl _) (lenOf hd hn) hst (Nat.le_refl _) dc (fun _ _ => ⟨rfl, eT, q3, q4⟩)
  dsimp only [Pt.U, Pt.locs, Pt.cells, Pt.slots] at X' hQ z1 z2 z3 st
  subst z1 z2 z3
  exact ⟨v, T', L, X', hQ, fun _ k => st.trans k⟩
theorem qw (hw : ∀ d ∈ tables_1, d.before a0 Z = true) : ∀ (i : Nat) {d : Cond}, tables_1[i]? = some d → d.before a0 Z = true := fun i _ q => hw _ (List.mem_of_getElem? q)
end OwnCall
def own_cp {α : Type} (f : Nat → α) (sp : Nat) (g : Nat → α) (dp n : Nat) : Nat → α := fun i => if dp ≤ i ∧ i < dp + n then f (sp + (i - dp)) else g i
section OwnNat
variable {p : Program} {l : Launch} {e : Env} {R : Room} {s : State} {m : MethodId} {args : Array Value} {below : List Frame} {meth : Method} {c : Code} {T : State} {locs : List Loc} {cells slots : Nat} {Z : State} {h h' : Heap} {a b : Addr} {A0 : Array Value}
theorem own_arfArv {k : ClassId} {ty : FieldType} {n : Int32} {f : Nat → Value} (F : qA Z h a k ty n f) (dv : Value) : Arv Z h a k ty n ((List.range n.toNatClampNeg).map f) dv := by
  obtain ⟨cl, A, q, S, M, H, G⟩ := F
  have key : ∀ i, i < cl.slots.size → ((List.range n.toNatClampNeg).map f).getD i dv = f i := fun i hi => by
    rw [S] at hi
    simp [List.getD_eq_getElem?_getD, hi]
  exact ⟨cl, A, q, S, M, fun i hi => by rw [key i hi]; exact H i hi, fun i hi => by rw [key i hi]; exact G i hi⟩
theorem own_arvArf {k : ClassId} {ty : FieldType} {n : Int32} {vs : List Value} {dv : Value} {f : Nat → Value} (F : Arv Z h a k ty n vs dv) (hf : ∀ i, i < n.toNatClampNeg → vs.getD i dv = f i) : qA Z h a k ty n f := by
  obtain ⟨cl, A, q, S, M, H, G⟩ := F
  exact ⟨cl, A, q, S, M, fun i hi => by rw [← hf i (S ▸ hi)]; exact H i hi, fun i hi => by rw [← hf i (S ▸ hi)]; exact G i hi⟩
theorem own_cpA (X : Stand p l e R s m args below meth c T locs cells slots) (hx : p.tables.exec = Jvm.exec) (hZ : Z.Warmed39 s.vm) {own : String} {index : Nat} (hown : s.vm.findClass own = some m.cls)
    (w1 : (Cond.methodLink own index Jvm.Stand.acN).before A0 Z = true) (w2 : (Cond.native Jvm.Stand.acN).before A0 Z = true) (w3 : (Cond.static Jvm.Stand.acN).before A0 Z = true) (w4 : (Cond.initialized "java/lang/System").before A0 Z = true) (eT : T.heap = h)
    {k k' : ClassId} {ty : FieldType} {z z' sp dp nn : Int32} {f f' : Nat → Value} (A : qA Z h a k ty z f) (B : qA Z h b k' ty z' f') (hty : refKind ty = false)
    (h1 : ¬ sp < 0) (h2 : ¬ dp < 0) (h3 : ¬ nn < 0) (h4 : sp.toNatClampNeg + nn.toNatClampNeg ≤ z.toNatClampNeg) (h5 : dp.toNatClampNeg + nn.toNatClampNeg ≤ z'.toNatClampNeg) {n0 : Nat} (N : Fr n0 locs) (ge : n0 ≤ b)
    {g : JFrame} (hg : g.method = m) (hsize : g.locals.size = c.maxLocals) {rest : List Value} (hs : g.stack = .int nn :: .int dp :: .ref b :: .int sp :: .ref a :: rest) (hd : decode c.code g.pc = .ok (.invokestatic index, 3))
    (hf : 1 ≤ R.frames) {W : Nat} (hW : 2 * g.monitorRoom + (rest.map fun v => v.category).sum ≤ W) (hlo : W + (nativeFrameWords "java/lang/System" "arraycopy" 5 + 11) ≤ R.locals) :
    ∃ T' h' L, Stand p l e R s m args below meth c T' L cells slots ∧ T'.heap = h' ∧ Fr n0 L ∧ Keep h h' [b] ∧ qA Z h' b k' ty z' (own_cp f sp.toNatClampNeg f' dp.toNatClampNeg nn.toNatClampNeg) ∧
      ∀ target, Steps p.tables e below (T'.setTop { g with pc := g.pc + 3, stack := rest }) target → Steps p.tables e below (T.setTop g) target := by
  obtain ⟨T', h', L, X', e', N', K, V, st⟩ := cpA X hx hZ hown w1 w2 w3 w4 eT (own_arfArv A .null) (own_arfArv B .null) (Or.inl ⟨rfl, hty⟩) h1 h2 h3 h4 h5 rfl (by simp; exact h5) N ge hg hsize hs hd hf hW hlo
  refine ⟨T', h', L, X', e', N', K, own_arvArf V fun i hi => ?_, st⟩
  simp only [own_cp, List.getD_eq_getElem?_getD]
  by_cases c1 : i < dp.toNatClampNeg
  · rw [List.append_assoc, List.getElem?_append_left (by simp; omega)]
    simp [c1, hi, show ¬ dp.toNatClampNeg ≤ i by omega]
  · by_cases c2 : i < dp.toNatClampNeg + nn.toNatClampNeg
    · rw [List.append_assoc, List.getElem?_append_right (by simp; omega), List.getElem?_append_left (by simp; omega)]
      have hm : min dp.toNatClampNeg z'.toNatClampNeg = dp.toNatClampNeg := by omega
      simp only [List.length_take, List.length_map, List.length_range, hm]
      have e1 : i - dp.toNatClampNeg < nn.toNatClampNeg := by omega
      have e2 : sp.toNatClampNeg + (i - dp.toNatClampNeg) < z.toNatClampNeg := by omega
      simp [e1, e2, c2, show dp.toNatClampNeg ≤ i by omega]
    · rw [List.getElem?_append_right (by simp; omega)]
      have hm : min dp.toNatClampNeg z'.toNatClampNeg = dp.toNatClampNeg := by omega
      simp only [List.length_append, List.length_take, List.length_map, List.length_range, hm]
      rw [List.getElem?_drop]
      have e1 : dp.toNatClampNeg + nn.toNatClampNeg + (i - (dp.toNatClampNeg + nn.toNatClampNeg)) = i := by omega
      rw [e1]
      simp [hi, c2]
theorem own_cpI (f : Nat → Int32) (sp : Nat) (g : Nat → Int32) (dp n : Nat) : own_cp (fun i => Value.int (f i)) sp (fun i => .int (g i)) dp n = (fun i => .int (own_cp f sp g dp n i)) := by funext i; simp only [own_cp]; split <;> rfl
theorem own_clone (X : Stand p l e R s m args below meth c T locs cells slots) (hx : p.tables.exec = Jvm.exec) (hZ : Z.Warmed39 s.vm) {own ad : String} {index : Nat} (hown : s.vm.findClass own = some m.cls)
    (w1 : (Cond.methodLink own index ⟨ad, "clone", "()Ljava/lang/Object;"⟩).before A0 Z = true) (w2 : (Cond.sameMethod ad "java/lang/Object" "clone" "()Ljava/lang/Object;").before A0 Z = true) (w3 : (Cond.native ⟨"java/lang/Object", "clone", "()Ljava/lang/Object;"⟩).before A0 Z = true)
    (w4 : (Cond.instanceMethod ⟨"java/lang/Object", "clone", "()Ljava/lang/Object;"⟩).before A0 Z = true) (w5 : (Cond.selects ad ⟨ad, "clone", "()Ljava/lang/Object;"⟩ ⟨"java/lang/Object", "clone", "()Ljava/lang/Object;"⟩).before A0 Z = true) (w6 : (Cond.castable ad "java/lang/Cloneable").before A0 Z = true)
    (eT : T.heap = h) {k : ClassId} {ty : FieldType} {z : Int32} {f : Nat → Value} (F : qA Z h a k ty z f) (E : Exa Z h a ad) {g : JFrame} (hg : g.method = m) (hsize : g.locals.size = c.maxLocals) {rest : List Value} (hst : g.stack = .ref a :: rest) (hd : decode c.code g.pc = .ok (.invokevirtual index, 3))
    (hf : 1 ≤ R.frames) {W cap : Nat} (hW : 2 * g.monitorRoom + (rest.map fun v => v.category).sum ≤ W) (hl : W + 14 ≤ R.locals) (hcap : z.toNatClampNeg ≤ cap) (hc : cells + 1 ≤ R.cells) (hsl : slots + cap ≤ R.slots) :
    ∃ T' h', Stand p l e R s m args below meth c T' locs (cells + 1) (slots + cap) ∧ T'.heap = h' ∧ Ext h h' ∧ qA Z h' h.size k ty z f ∧ Exa Z h' h.size ad ∧
      ∀ target, Steps p.tables e below (T'.setTop { g with pc := g.pc + 3, stack := .ref h.size :: rest }) target → Steps p.tables e below (T.setTop g) target := by
  obtain ⟨T', h', X', e', ex, A', E', st⟩ := cloneH X hx hZ hown w1 w2 w3 w4 w5 w6 eT (own_arfArv F .null).arh E hg hsize hst hd hf hW hl hcap hc hsl
  refine ⟨T', h', X', e', ex, own_arvArf (vs := (List.range z.toNatClampNeg).map f) (dv := .null) A' fun i hi => ?_, E', st⟩
  simp [List.getD_eq_getElem?_getD, hi]
end OwnNat
section OwnExc
variable {p : Program} {l : Launch} {e : Env} {R : Room} {s : State} {m : MethodId} {args : Array Value} {below : List Frame} {Z : State} {a0 : Array Value} {EL : List (String × Nat)} {h : Heap} {vm0 : Vm} {C : String} {y y' : MethodName}
theorem own_notFace {y0 : MethodName} (hsel : (Cond.selects C y0 y').before args s = true) (hc : y'.cls = y.cls) : NotFace s y := fun r0 h0 => by
  obtain ⟨c2, r2, m2, q1, q2, q3, q4, kP, hkP, hkPi⟩ := Cond.selects_spec hsel
  have e1 := findClass_of_methodNamed h0
  have e2 := findClass_of_methodNamed q3
  rw [hc, e1] at e2
  exact ⟨kP, by rw [Option.some.inj e2]; exact hkP, hkPi⟩
end OwnExc
theorem own_isub0 (x : Int32) : x - (0 : Int32) = x := Int32.sub_zero x
section OwnRef
variable {p : Program} {l : Launch} {e : Env} {R : Room} {s : State} {m : MethodId} {args : Array Value} {below : List Frame} {meth : Method} {c : Code} {T : State} {locs : List Loc} {cells slots : Nat} {Z : State} {a0 : Array Value} {h h' : Heap} {a b : Addr} {k : ClassId} {C : String} {n : Int32} {ws : List Addr}
/-- 'aastore' of an object that the array's class takes -/
theorem own_stR (X : Stand p l e R s m args below meth c T locs cells slots) (hx : p.tables.exec = Jvm.exec) (hZ : Z.Warmed39 s.vm) (eT : T.heap = h) {f : Nat → Value} (F : qA Z h a k (.object C) n f) (O : Ovr Z k C) {j : Int32} {y : Addr} (hj : (¬ j < 0) ∧ j < n) (I : Ins Z h y C true)
    {g : JFrame} (hg : g.method = m) {rest : List Value} (hs : g.stack = .ref y :: .int j :: .ref a :: rest) (hd : decode c.code g.pc = .ok (.aastore, 1)) :
    ∃ T' h', Stand p l e R s m args below meth c T' (locs ++ [⟨a, j.toNatClampNeg⟩]) cells slots ∧ T'.heap = h' ∧ Wr h h' a j.toNatClampNeg (.ref y) ∧ qA Z h' a k (.object C) n (qu f j.toNatClampNeg (.ref y)) ∧
      ∀ target, Steps p.tables e below (T'.setTop { g with pc := g.pc + 1, stack := rest }) target → Steps p.tables e below (T.setTop g) target := by
  obtain ⟨cl, A, q1, S, M, H, G⟩ := F
  obtain ⟨T', h', X', e', W, st⟩ := stR X hx hZ eT A (j := j) (inb_of S hj) rfl (Sto.ofV A q1 O I) hg hs hd
  exact ⟨T', h', X', e', W, own_arfSet A q1 S M H G rfl W, st⟩
theorem own_arfNewR (A : Arr Z h a (newA k (.object C) n) (.object C)) (q : ¬ n < 0) : qA Z h a k (.object C) n (fun _ => .null) := own_arfNew A q
theorem own_ldR (X : Stand p l e R s m args below meth c T locs cells slots) (hx : p.tables.exec = Jvm.exec) (hZ : Z.Warmed39 s.vm) (eT : T.heap = h) {f : Nat → Value} (F : qA Z h a k (.object C) n f) {j : Int32} (hj : (¬ j < 0) ∧ j < n)
    {g : JFrame} (hg : g.method = m) {rest : List Value} (hs : g.stack = .int j :: .ref a :: rest) (hd : decode c.code g.pc = .ok (.aaload, 1)) :
    ∀ target, Steps p.tables e below (T.setTop { g with pc := g.pc + 1, stack := f j.toNatClampNeg :: rest }) target → Steps p.tables e below (T.setTop g) target := by
  obtain ⟨cl, A, q1, S, M, H, G⟩ := F
  have hin := inb_of S hj
  exact fun t k => X.aaload hx (j := j) (v := f j.toNatClampNeg) (by rw [eT]; exact A.1) (State.isArrayOf_alike hZ.alike A.2.1) rfl A.2.2 hin (H _ (Nat.lt_of_not_le fun y => hin (Or.inr y))) hg hs hd t k
end OwnRef
abbrev cIN : String := "java/lang/Integer"
abbrev cND : String := "java/util/HashMap$Node"
abbrev cNA : String := "[Ljava/util/HashMap$Node;"
abbrev cHM : String := "java/util/HashMap"
abbrev cAM : String := "java/util/AbstractMap"
abbrev cST : String := "java/lang/String"
abbrev cBA : String := "[B"
abbrev cAL : String := "java/util/ArrayList"
abbrev cOA : String := "[Ljava/lang/Object;"
abbrev cHT : String := "com/example/libacross/libacross/format/Hit"
abbrev cVI : String := "java/util/HashMap$ValueIterator"
abbrev cHI : String := "java/util/HashMap$HashIterator"
abbrev dOb : String := "Ljava/lang/Object;"
abbrev dND : String := "Ljava/util/HashMap$Node;"
abbrev dST : String := "Ljava/lang/String;"
def own_ch (i : Nat) : Int32 := 97 + Int32.ofNat i
def own_nn : Value → Nat | .null => 0 | _ => 1
def own_ct (fn : Nat → Value) : Nat → Nat | 0 => 0 | n + 1 => own_ct fn n + own_nn (fn n)
def own_K (k0 k1 k2 k3 k4 : Addr) : Nat → Addr | 0 => k0 | 1 => k1 | 2 => k2 | 3 => k3 | _ => k4
theorem own_Kmem {k0 k1 k2 k3 k4 kd : Addr} {i : Nat} {ws : List Addr} (h : own_K k0 k1 k2 k3 k4 i = kd) (q : ∀ x ∈ [k0, k1, k2, k3, k4], x ∈ ws) : kd ∈ ws := by
  subst h
  match i with
  | 0 => exact q _ (by simp [own_K]) | 1 => exact q _ (by simp [own_K]) | 2 => exact q _ (by simp [own_K]) | 3 => exact q _ (by simp [own_K]) | _ + 4 => exact q _ (by simp [own_K])
theorem own_Kge {k0 k1 k2 k3 k4 kd : Addr} {n0 i : Nat} (h : own_K k0 k1 k2 k3 k4 i = kd) (h0 : n0 ≤ k0) (h1 : n0 ≤ k1) (h2 : n0 ≤ k2) (h3 : n0 ≤ k3) (h4 : n0 ≤ k4) : n0 ≤ kd := by
  subst h
  match i with
  | 0 => exact h0 | 1 => exact h1 | 2 => exact h2 | 3 => exact h3 | _ + 4 => exact h4
theorem own_Kinj {k0 k1 k2 k3 k4 : Addr} (h01 : k0 ≠ k1) (h02 : k0 ≠ k2) (h03 : k0 ≠ k3) (h04 : k0 ≠ k4) (h12 : k1 ≠ k2) (h13 : k1 ≠ k3) (h14 : k1 ≠ k4) (h23 : k2 ≠ k3) (h24 : k2 ≠ k4) (h34 : k3 ≠ k4) : ∀ i j, i < 5 → j < 5 → own_K k0 k1 k2 k3 k4 i = own_K k0 k1 k2 k3 k4 j → i = j := by
  intro i j hi hj h
  match i, j, hi, hj with
  | 0, 0, _, _ | 1, 1, _, _ | 2, 2, _, _ | 3, 3, _, _ | 4, 4, _, _ => rfl
  | 0, 1, _, _ => exact (h01 h).elim | 0, 2, _, _ => exact (h02 h).elim | 0, 3, _, _ => exact (h03 h).elim | 0, 4, _, _ => exact (h04 h).elim
  | 1, 2, _, _ => exact (h12 h).elim | 1, 3, _, _ => exact (h13 h).elim | 1, 4, _, _ => exact (h14 h).elim
  | 2, 3, _, _ => exact (h23 h).elim | 2, 4, _, _ => exact (h24 h).elim | 3, 4, _, _ => exact (h34 h).elim
  | 1, 0, _, _ => exact (h01 h.symm).elim | 2, 0, _, _ => exact (h02 h.symm).elim | 3, 0, _, _ => exact (h03 h.symm).elim | 4, 0, _, _ => exact (h04 h.symm).elim
  | 2, 1, _, _ => exact (h12 h.symm).elim | 3, 1, _, _ => exact (h13 h.symm).elim | 4, 1, _, _ => exact (h14 h.symm).elim
  | 3, 2, _, _ => exact (h23 h.symm).elim | 4, 2, _, _ => exact (h24 h.symm).elim | 4, 3, _, _ => exact (h34 h.symm).elim
section OwnMap
variable {Z : State} {h h' : Heap} {ws : List Addr} {a b m nd key l it : Addr} {hs x n sz : Int32} {v tv : Value} {fn : Nat → Value} {i j : Nat}
/-- x is of a class that is none of L -/
def own_Ot (Z : State) (h : Heap) (L : List String) (x : Addr) : Prop := ∃ C, Exa Z h x C ∧ C ∉ L
theorem qo {L : List String} {C : String} (E : Exa Z h a C) (q : C ∉ L) : own_Ot Z h L a := ⟨C, E, q⟩
theorem own_notin {L : List String} {C : String} (E : Exa Z h a C) (hC : C ∈ L) (q : ∀ x ∈ ws, own_Ot Z h L x) : a ∉ ws := fun hy => by
  obtain ⟨D, E', hn⟩ := q a hy
  exact ne_exa E E' (fun e => hn (e ▸ hC)) rfl
/-- an Integer that holds x -/
def own_Bx (Z : State) (h : Heap) (b : Addr) (x : Int32) : Prop := Exa Z h b cIN ∧ Fld Z h b cIN "value" "I" (.int x)
theorem own_Bx.ext (B : own_Bx Z h b x) (E : Ext h h') : own_Bx Z h' b x := ⟨B.1.ext E, B.2.ext E⟩
theorem own_Bx.keep (B : own_Bx Z h b x) (K : Keep h h' ws) (q : b ∉ ws) : own_Bx Z h' b x := ⟨B.1.keep K, B.2.keep K q⟩
/-- a node of a HashMap, alone in its bucket -/
def own_Nd (Z : State) (h : Heap) (nd : Addr) (hs : Int32) (key b : Addr) (x : Int32) : Prop := Exa Z h nd cND ∧ Fld Z h nd cND "hash" "I" (.int hs) ∧ Fld Z h nd cND "key" dOb (.ref key) ∧ Fld Z h nd cND "value" dOb (.ref b) ∧ Fld Z h nd cND "next" dND .null ∧ own_Bx Z h b x
theorem own_Nd.ext (N : own_Nd Z h nd hs key b x) (E : Ext h h') : own_Nd Z h' nd hs key b x := ⟨N.1.ext E, N.2.1.ext E, N.2.2.1.ext E, N.2.2.2.1.ext E, N.2.2.2.2.1.ext E, N.2.2.2.2.2.ext E⟩
theorem own_Nd.kp {L : List String} (N : own_Nd Z h nd hs key b x) (K : Keep h h' ws) (q : ∀ x ∈ ws, own_Ot Z h L x) (h1 : cND ∈ L) (h2 : cIN ∈ L) : own_Nd Z h' nd hs key b x := by
  have n1 := own_notin N.1 h1 q
  have n2 := own_notin N.2.2.2.2.2.1 h2 q
  exact ⟨N.1.keep K, N.2.1.keep K n1, N.2.2.1.keep K n1, N.2.2.2.1.keep K n1, N.2.2.2.2.1.keep K n1, N.2.2.2.2.2.keep K n2⟩
theorem own_Nd.keep (N : own_Nd Z h nd hs key b x) (K : Keep h h' ws) (q : ∀ x ∈ ws, own_Ot Z h [cND, cIN] x) : own_Nd Z h' nd hs key b x := N.kp K q (by simp) (by simp)
/-- null, or a node -/
def own_So (Z : State) (h : Heap) (v : Value) : Prop := v = .null ∨ ∃ nd hs key b x, v = .ref nd ∧ own_Nd Z h nd hs key b x
/-- the bucket of one key: there with the number x, or not -/
def own_Sl (Z : State) (h : Heap) (v : Value) (hs : Int32) (key : Addr) (c : Prop) (x : Int32) : Prop := (¬ c ∧ v = .null) ∨ (c ∧ ∃ nd b, v = .ref nd ∧ own_Nd Z h nd hs key b x)
theorem own_Sl.so {c : Prop} (S : own_Sl Z h v hs key c x) : own_So Z h v := by
  rcases S with ⟨-, q⟩ | ⟨-, nd, b, q, N⟩
  · exact Or.inl q
  · exact Or.inr ⟨nd, _, _, b, _, q, N⟩
theorem own_Sl.ext {c : Prop} (S : own_Sl Z h v hs key c x) (E : Ext h h') : own_Sl Z h' v hs key c x := S.imp id fun ⟨q, nd, b, r, N⟩ => ⟨q, nd, b, r, N.ext E⟩
theorem own_Sl.kp {c : Prop} {L : List String} (S : own_Sl Z h v hs key c x) (K : Keep h h' ws) (q : ∀ x ∈ ws, own_Ot Z h L x) (h1 : cND ∈ L) (h2 : cIN ∈ L) : own_Sl Z h' v hs key c x := S.imp id fun ⟨r, nd, b, u, N⟩ => ⟨r, nd, b, u, N.kp K q h1 h2⟩
def own_Tb (Z : State) (h : Heap) (fn : Nat → Value) : Prop := ∀ j, j < 16 → own_So Z h (fn j)
theorem own_Tb.ext (S : own_Tb Z h fn) (E : Ext h h') : own_Tb Z h' fn := fun j hj => (S j hj).imp id fun ⟨nd, hs, key, b, x, r, N⟩ => ⟨nd, hs, key, b, x, r, N.ext E⟩
theorem own_Tb.kp {L : List String} (S : own_Tb Z h fn) (K : Keep h h' ws) (q : ∀ x ∈ ws, own_Ot Z h L x) (h1 : cND ∈ L) (h2 : cIN ∈ L) : own_Tb Z h' fn := fun j hj => (S j hj).imp id fun ⟨nd, hs, key, b, x, r, N⟩ => ⟨nd, hs, key, b, x, r, N.kp K q h1 h2⟩
theorem own_Tb.keep (S : own_Tb Z h fn) (K : Keep h h' ws) (q : ∀ x ∈ ws, own_Ot Z h [cND, cIN] x) : own_Tb Z h' fn := S.kp K q (by simp) (by simp)
variable {keys : Nat → Addr} {C C' : Nat → Prop} {X : Nat → Int32} {kk kk' : Int} {lo : Nat}
/-- the buckets of the five keys -/
def own_Ss (Z : State) (h : Heap) (keys : Nat → Addr) (C : Nat → Prop) (X : Nat → Int32) (fn : Nat → Value) : Prop := (∀ j, j < 16 → j = 0 ∨ 6 ≤ j → fn j = .null) ∧ ∀ i, i < 5 → own_Sl Z h (fn (i + 1)) (own_ch i) (keys i) (C i) (X i)
theorem own_Ss.ext (S : own_Ss Z h keys C X fn) (E : Ext h h') : own_Ss Z h' keys C X fn := ⟨S.1, fun i hi => (S.2 i hi).ext E⟩
theorem own_Ss.kp {L : List String} (S : own_Ss Z h keys C X fn) (K : Keep h h' ws) (q : ∀ x ∈ ws, own_Ot Z h L x) (h1 : cND ∈ L) (h2 : cIN ∈ L) : own_Ss Z h' keys C X fn := ⟨S.1, fun i hi => (S.2 i hi).kp K q h1 h2⟩
theorem own_Ss.keep (S : own_Ss Z h keys C X fn) (K : Keep h h' ws) (q : ∀ x ∈ ws, own_Ot Z h [cND, cIN] x) : own_Ss Z h' keys C X fn := S.kp K q (by simp) (by simp)
theorem own_Ss.tb (S : own_Ss Z h keys C X fn) : own_Tb Z h fn := fun j hj => by
  by_cases q : j = 0 ∨ 6 ≤ j
  · exact Or.inl (S.1 j hj q)
  · have := (S.2 (j - 1) (by omega)).so
    rwa [show j - 1 + 1 = j by omega] at this
theorem own_Ss.zero (q : ∀ i, i < 5 → ¬ C i) : own_Ss Z h keys C X (fun _ => .null) := ⟨fun _ _ _ => rfl, fun i hi => Or.inl ⟨q i hi, rfl⟩⟩
theorem own_Ss.put {idx : Nat} (S : own_Ss Z h keys C X fn) (hi : i < 5) (hx : idx = i + 1) (hC : ∀ j, j < 5 → j ≠ i → (C' j ↔ C j)) (hCi : C' i) (N : own_Nd Z h nd (own_ch i) (keys i) b (X i)) : own_Ss Z h keys C' X (qu fn idx (.ref nd)) := by
  subst hx
  refine ⟨fun j hj q => ?_, fun j hj => ?_⟩
  · rw [qu, if_neg (by omega)]; exact S.1 j hj q
  · by_cases e : j = i
    · subst e; rw [qu, if_pos rfl]; exact Or.inr ⟨hCi, nd, b, rfl, N⟩
    · rw [qu, if_neg (by omega)]
      have := S.2 j hj
      unfold own_Sl at this ⊢
      rwa [hC j hj e]
theorem own_ctu {k : Nat} (q : fn j = .null) : ∀ n, own_ct (qu fn j (.ref k)) n = own_ct fn n + (if j < n then 1 else 0)
  | 0 => by simp [own_ct]
  | n + 1 => by
    rw [own_ct, own_ct, own_ctu q n]
    by_cases e : n = j
    · subst e; rw [qu, if_pos rfl, q, if_neg (by omega), if_pos (by omega)]; rfl
    · rw [qu, if_neg e]
      by_cases r : j < n
      · rw [if_pos r, if_pos (by omega)]; omega
      · rw [if_neg r, if_neg (by omega)]; omega
theorem own_ctm {a b : Nat} (q : a ≤ b) : own_ct fn a ≤ own_ct fn b := by
  induction q with
  | refl => exact Nat.le_refl _
  | step _ ih => exact ql ih (Nat.le_add_right _ _)
theorem own_ct0 : ∀ n, own_ct (fun _ => Value.null) n = 0
  | 0 => rfl
  | n + 1 => by rw [own_ct, own_ct0 n]; rfl
/-- what a HashMap holds that has a table -/
def own_Mt (Z : State) (h : Heap) (m : Addr) (keys : Nat → Addr) (C : Nat → Prop) (X : Nat → Int32) (kk : Int) (lo : Nat) (t : Addr) (k : ClassId) (fn : Nat → Value) (sz : Int32) : Prop :=
  Fld Z h m cHM "table" cNA (.ref t) ∧ Fld Z h m cHM "size" "I" (.int sz) ∧ Fld Z h m cHM "modCount" "I" (.int sz) ∧ Fld Z h m cHM "threshold" "I" (.int 12) ∧ Exa Z h t cNA ∧ qA Z h t k (.object cND) 16 fn ∧ Ovr Z k cND ∧
  own_Ss Z h keys C X fn ∧ sz.toInt = own_ct fn 16 ∧ sz.toInt ≤ kk ∧ lo ≤ t
def own_M0 (Z : State) (h : Heap) (m : Addr) (C : Nat → Prop) : Prop := Fld Z h m cHM "table" cNA .null ∧ Fld Z h m cHM "size" "I" (.int 0) ∧ Fld Z h m cHM "modCount" "I" (.int 0) ∧ Fld Z h m cHM "threshold" "I" (.int 0) ∧ ∀ i, i < 5 → ¬ C i
def own_Mp (Z : State) (h : Heap) (m : Addr) (keys : Nat → Addr) (C : Nat → Prop) (X : Nat → Int32) (kk : Int) (lo : Nat) : Prop :=
  Exa Z h m cHM ∧ (∃ w : UInt32, Fld Z h m cHM "loadFactor" "F" (.float w)) ∧ Fld Z h m cAM "values" "Ljava/util/Collection;" .null ∧ (own_M0 Z h m C ∨ ∃ t k fn sz, own_Mt Z h m keys C X kk lo t k fn sz)
theorem own_Mp.ext (M : own_Mp Z h m keys C X kk lo) (E : Ext h h') : own_Mp Z h' m keys C X kk lo := by
  obtain ⟨h1, ⟨w, h2⟩, h3, r⟩ := M
  refine ⟨h1.ext E, ⟨w, h2.ext E⟩, h3.ext E, r.imp (fun ⟨a, b, c, d, q⟩ => ⟨a.ext E, b.ext E, c.ext E, d.ext E, q⟩) ?_⟩
  rintro ⟨t, k, fn, sz, a, b, c, d, f, g, o, z, r⟩
  exact ⟨t, k, fn, sz, a.ext E, b.ext E, c.ext E, d.ext E, f.ext E, g.ext E, o, z.ext E, r⟩
theorem own_Mp.keep (M : own_Mp Z h m keys C X kk lo) (K : Keep h h' ws) (q : ∀ x ∈ ws, own_Ot Z h [cHM, cNA, cND, cIN] x) : own_Mp Z h' m keys C X kk lo := by
  obtain ⟨h1, ⟨w, h2⟩, h3, r⟩ := M
  have n := own_notin h1 (by simp) q
  refine ⟨h1.keep K, ⟨w, h2.keep K n⟩, h3.keep K n, r.imp (fun ⟨a, b, c, d, q⟩ => ⟨a.keep K n, b.keep K n, c.keep K n, d.keep K n, q⟩) ?_⟩
  rintro ⟨t, k, fn, sz, a, b, c, d, f, g, o, z, r⟩
  have nt := own_notin f (by simp) q
  exact ⟨t, k, fn, sz, a.keep K n, b.keep K n, c.keep K n, d.keep K n, f.keep K, g.keep K nt, o, z.kp K q (by simp) (by simp), r⟩
theorem own_Mp.skip (M : own_Mp Z h m keys C X kk lo) (q : ∀ i, i < 5 → (C' i ↔ C i)) (hk : kk ≤ kk') : own_Mp Z h m keys C' X kk' lo := by
  obtain ⟨h1, h2, h3, r⟩ := M
  refine ⟨h1, h2, h3, r.imp (fun ⟨a, b, c, d, r⟩ => ⟨a, b, c, d, fun i hi => by rw [q i hi]; exact r i hi⟩) ?_⟩
  rintro ⟨t, k, fn, sz, a, b, c, d, f, g, o, z, r1, r2, r3⟩
  exact ⟨t, k, fn, sz, a, b, c, d, f, g, o, ⟨z.1, fun i hi => by have := z.2 i hi; unfold own_Sl at this ⊢; rwa [q i hi]⟩, r1, Int.le_trans r2 hk, r3⟩
/-- a table, or none -/
def own_Tv (Z : State) (h : Heap) (tv : Value) (sz : Int32) : Prop := tv = .null ∨ ∃ t k fn, tv = .ref t ∧ Exa Z h t cNA ∧ qA Z h t k (.object cND) 16 fn ∧ own_Tb Z h fn ∧ (own_ct fn 16 : Int) = sz.toInt
theorem own_Tv.ext (S : own_Tv Z h tv sz) (E : Ext h h') : own_Tv Z h' tv sz := S.imp id fun ⟨t, k, fn, e, x, a, b, c⟩ => ⟨t, k, fn, e, x.ext E, a.ext E, b.ext E, c⟩
theorem own_Tv.keep (S : own_Tv Z h tv sz) (K : Keep h h' ws) (q : ∀ x ∈ ws, own_Ot Z h [cNA, cND, cIN] x) : own_Tv Z h' tv sz := S.imp id fun ⟨t, k, fn, e, x, a, b, c⟩ => ⟨t, k, fn, e, x.keep K, a.keep K (own_notin x (by simp) q), b.kp K q (by simp) (by simp), c⟩
theorem own_Mp.open (M : own_Mp Z h m keys C X kk lo) (hk : kk ≤ 5) : ∃ sz mc th lf tv, Exa Z h m cHM ∧ Fld Z h m cHM "size" "I" (.int sz) ∧ Fld Z h m cHM "modCount" "I" (.int mc) ∧ Fld Z h m cHM "threshold" "I" (.int th) ∧ Fld Z h m cHM "loadFactor" "F" (.float lf) ∧ Fld Z h m cHM "table" cNA tv ∧ Fld Z h m cAM "values" "Ljava/util/Collection;" .null ∧ tv.isRef = true ∧ own_Tv Z h tv sz ∧ ¬ sz < (0 : Int32) ∧ sz.toNatClampNeg ≤ 5 := by
  obtain ⟨h1, ⟨w, h2⟩, h3, ⟨a, b, c, d, r⟩ | ⟨t, k, fn, sz, a, b, c, d, f, g, o, z, r1, r2, r3⟩⟩ := M
  · exact ⟨0, 0, 0, w, .null, h1, b, c, d, h2, a, h3, rfl, Or.inl rfl, by decide, by decide⟩
  · refine ⟨sz, sz, 12, w, .ref t, h1, b, c, d, h2, a, h3, rfl, Or.inr ⟨t, k, fn, rfl, f, g, z.tb, r1.symm⟩, ?_, ?_⟩
    · rw [Int32.lt_iff_toInt_lt]; have : (0 : Int32).toInt = 0 := rfl; omega
    · rw [Int32.toNatClampNeg]; omega
/-- the boxes of Integer$IntegerCache -/
def own_Ca (Z : State) (h : Heap) (ca : Addr) (k : ClassId) (fn : Nat → Value) : Prop := qA Z h ca k (.object cIN) 256 fn ∧ Exa Z h ca "[Ljava/lang/Integer;" ∧ ∀ j : Int32, ¬ j < 0 → j < 256 → ∃ b, fn j.toNatClampNeg = .ref b ∧ own_Bx Z h b (j - 128)
theorem own_Ca.ext {ca : Addr} {k : ClassId} (S : own_Ca Z h ca k fn) (E : Ext h h') : own_Ca Z h' ca k fn := ⟨S.1.ext E, S.2.1.ext E, fun j h1 h2 => let ⟨b, r, B⟩ := S.2.2 j h1 h2; ⟨b, r, B.ext E⟩⟩
theorem own_Ca.keep {ca : Addr} {k : ClassId} (S : own_Ca Z h ca k fn) (K : Keep h h' ws) (q : ∀ x ∈ ws, own_Ot Z h [cIN, "[Ljava/lang/Integer;"] x) : own_Ca Z h' ca k fn :=
  ⟨S.1.keep K (own_notin S.2.1 (by simp) q), S.2.1.keep K, fun j h1 h2 => let ⟨b, r, B⟩ := S.2.2 j h1 h2; ⟨b, r, B.keep K (own_notin B.1 (by simp) q)⟩⟩
/-- a key: a String of one letter -/
def own_Kx (Z : State) (h : Heap) (key : Addr) (i : Nat) : Prop := ∃ (t : Addr) (k : ClassId) (fn : Nat → Int32) (hv : Int32), Exa Z h key cST ∧ Fld Z h key cST "coder" "B" (.int 0) ∧ Fld Z h key cST "value" "[B" (.ref t) ∧ Fld Z h key cST "hash" "I" (.int hv) ∧ Fld Z h key cST "hashIsZero" "Z" (.int 0) ∧ Exa Z h t cBA ∧ qA Z h t k .byte 1 (fun i => .int (fn i)) ∧ (hv = (0 : Int32) ∨ hv = ((fn 0) &&& (255 : Int32))) ∧ ((fn 0) &&& (255 : Int32)) = own_ch i
theorem own_Kx.ext (S : own_Kx Z h key i) (E : Ext h h') : own_Kx Z h' key i := by
  obtain ⟨t, k, fn, hv, a, b, c, d, e, f, g, r⟩ := S
  exact ⟨t, k, fn, hv, a.ext E, b.ext E, c.ext E, d.ext E, e.ext E, f.ext E, g.ext E, r⟩
theorem own_Kx.kp (S : own_Kx Z h key i) (K : Keep h h' ws) (q : key ∉ ws) (q' : ∀ t, Exa Z h t cBA → t ∉ ws) : own_Kx Z h' key i := by
  obtain ⟨t, k, fn, hv, a, b, c, d, e, f, g, r⟩ := S
  exact ⟨t, k, fn, hv, a.keep K, b.keep K q, c.keep K q, d.keep K q, e.keep K q, f.keep K, g.keep K (q' t f), r⟩
def own_Ks (Z : State) (h : Heap) (keys : Nat → Addr) : Prop := (∀ i j, i < 5 → j < 5 → keys i = keys j → i = j) ∧ ∀ i, i < 5 → own_Kx Z h (keys i) i
theorem own_Ks.ext (S : own_Ks Z h keys) (E : Ext h h') : own_Ks Z h' keys := ⟨S.1, fun i hi => (S.2 i hi).ext E⟩
theorem own_Kx.exa (S : own_Kx Z h key i) : Exa Z h key cST := by obtain ⟨t, k, fn, hv, a, -⟩ := S; exact a
theorem own_Ks.keep (S : own_Ks Z h keys) (K : Keep h h' ws) (q : ∀ x ∈ ws, own_Ot Z h [cST, cBA] x) : own_Ks Z h' keys := ⟨S.1, fun i hi => (S.2 i hi).kp K (own_notin (S.2 i hi).exa (by simp) q) fun _ f => own_notin f (by simp) q⟩
theorem own_Ks.put (S : own_Ks Z h keys) (K : Keep h h' ws) (hi : i < 5) (hk : keys i = key) (q : ∀ x ∈ ws, x = key ∨ own_Ot Z h [cST, cBA] x) (N : own_Kx Z h' key i) : own_Ks Z h' keys := ⟨S.1, fun j hj => by
  by_cases e : j = i
  · subst e; rw [hk]; exact N
  · have hE := (S.2 i hi).exa
    rw [hk] at hE
    refine (S.2 j hj).kp K (fun hm => ?_) fun t f hm => ?_
    · rcases q _ hm with r | ⟨D, E', hn⟩
      · exact e (S.1 j i hj hi (r.trans hk.symm))
      · exact ne_exa (S.2 j hj).exa E' (fun e => hn (e ▸ by simp)) rfl
    · rcases q _ hm with r | ⟨D, E', hn⟩
      · subst r; exact ne_exa f hE (by decide) rfl
      · exact ne_exa f E' (fun e => hn (e ▸ by simp)) rfl⟩
/-- a list of n Hits, whose ids are keys 0 .. -/
def own_Al (Z : State) (h : Heap) (l : Addr) (n : Int32) (keys : Nat → Addr) : Prop := Exa Z h l cAL ∧ Fld Z h l cAL "size" "I" (.int n) ∧ (¬ n < 0 ∧ n < 5) ∧ (n = 0 ∨ ∃ t k fn, Fld Z h l cAL "elementData" cOA (.ref t) ∧ Exa Z h t cOA ∧ qA Z h t k (.object "java/lang/Object") 10 fn ∧ ∀ i, i < n.toNatClampNeg → ∃ hit, fn i = .ref hit ∧ Exa Z h hit cHT ∧ Fld Z h hit cHT "documentId" dST (.ref (keys i)))
theorem own_Al.ext (S : own_Al Z h l n keys) (E : Ext h h') : own_Al Z h' l n keys := ⟨S.1.ext E, S.2.1.ext E, S.2.2.1, S.2.2.2.imp id fun ⟨t, k, fn, a, b, c, d⟩ => ⟨t, k, fn, a.ext E, b.ext E, c.ext E, fun i hi => let ⟨x, r, u, y⟩ := d i hi; ⟨x, r, u.ext E, y.ext E⟩⟩⟩
theorem own_Al.keep (S : own_Al Z h l n keys) (K : Keep h h' ws) (q : ∀ x ∈ ws, own_Ot Z h [cAL, cOA, cHT] x) : own_Al Z h' l n keys := by
  have nl := own_notin S.1 (by simp) q
  exact ⟨S.1.keep K, S.2.1.keep K nl, S.2.2.1, S.2.2.2.imp id fun ⟨t, k, fn, a, b, c, d⟩ => ⟨t, k, fn, a.keep K nl, b.keep K, c.keep K (own_notin b (by simp) q), fun i hi => let ⟨x, r, u, y⟩ := d i hi; ⟨x, r, u.keep K, y.keep K (own_notin u (by simp) q)⟩⟩⟩
theorem own_Al.get (S : own_Al Z h l n keys) (hi : i < n.toNatClampNeg) : ∃ t k fn hit, Fld Z h l cAL "elementData" cOA (.ref t) ∧ qA Z h t k (.object "java/lang/Object") 10 fn ∧ fn i = .ref hit ∧ Exa Z h hit cHT ∧ Fld Z h hit cHT "documentId" dST (.ref (keys i)) := by
  obtain ⟨-, -, -, rfl | ⟨t, k, fn, a, -, c, d⟩⟩ := S
  · exact absurd (hi : i < 0) (Nat.not_lt_zero i)
  · obtain ⟨x, r⟩ := d i hi
    exact ⟨t, k, fn, x, a, c, r⟩
/-- an iterator over the values: c have been counted -/
def own_It (Z : State) (h : Heap) (it : Addr) (tv : Value) (sz : Int32) (c : Int) (j : Nat) : Prop := Exa Z h it cVI ∧ (∃ cv, Fld Z h it cHI "current" dND cv) ∧ (∃ iv, Fld Z h it cHI "index" "I" (.int iv)) ∧ (Fld Z h it cHI "next" dND .null ∨
  ∃ t k fn idx nd hs key b x, tv = .ref t ∧ Exa Z h t cNA ∧ qA Z h t k (.object cND) 16 fn ∧ own_Tb Z h fn ∧ Fld Z h it cHI "index" "I" (.int idx) ∧ Fld Z h it cHI "next" dND (.ref nd) ∧ own_Nd Z h nd hs key b x ∧ ¬ (idx < (0 : Int32)) ∧ (idx).toNatClampNeg = j ∧ j ≤ 16 ∧ c + 1 ≤ (own_ct fn j : Int) ∧ (own_ct fn 16 : Int) = sz.toInt)
theorem own_It.ext {c : Int} (S : own_It Z h it tv sz c j) (E : Ext h h') : own_It Z h' it tv sz c j := ⟨S.1.ext E, let ⟨v, f⟩ := S.2.1; ⟨v, f.ext E⟩, let ⟨v, f⟩ := S.2.2.1; ⟨v, f.ext E⟩, S.2.2.2.imp (fun f => f.ext E) fun ⟨t, k, fn, idx, nd, hs, key, b, x, e, y, a, B, f, g, N, r⟩ => ⟨t, k, fn, idx, nd, hs, key, b, x, e, y.ext E, a.ext E, B.ext E, f.ext E, g.ext E, N.ext E, r⟩⟩
theorem own_It.keep {c : Int} (S : own_It Z h it tv sz c j) (K : Keep h h' ws) (q : ∀ x ∈ ws, own_Ot Z h [cVI, cNA, cND, cIN] x) : own_It Z h' it tv sz c j := by
  have n := own_notin S.1 (by simp) q
  exact ⟨S.1.keep K, let ⟨v, f⟩ := S.2.1; ⟨v, f.keep K n⟩, let ⟨v, f⟩ := S.2.2.1; ⟨v, f.keep K n⟩, S.2.2.2.imp (fun f => f.keep K n) fun ⟨t, k, fn, idx, nd, hs, key, b, x, e, y, a, B, f, g, N, r⟩ => ⟨t, k, fn, idx, nd, hs, key, b, x, e, y.keep K, a.keep K (own_notin y (by simp) q), B.kp K q (by simp) (by simp), f.keep K n, g.keep K n, N.kp K q (by simp) (by simp), r⟩⟩
theorem own_It.mono {c c' : Int} (S : own_It Z h it tv sz c j) (q : c' ≤ c) : own_It Z h it tv sz c' j := ⟨S.1, S.2.1, S.2.2.1, S.2.2.2.imp id fun ⟨t, k, fn, idx, nd, hs, key, b, x, e, y, a, B, f, g, N, r1, r2, r3, r4, r5⟩ => ⟨t, k, fn, idx, nd, hs, key, b, x, e, y, a, B, f, g, N, r1, r2, r3, by omega, r5⟩⟩
def own_Il (Z : State) (h : Heap) (it : Addr) (tv : Value) (sz : Int32) (c : Int) (i : Nat) : Prop := ∃ j, i < j ∧ j ≤ 17 ∧ own_It Z h it tv sz c j
theorem own_Il.ext {c : Int} (S : own_Il Z h it tv sz c i) (E : Ext h h') : own_Il Z h' it tv sz c i := let ⟨j, a, b, c⟩ := S; ⟨j, a, b, c.ext E⟩
theorem own_Il.keep {c : Int} (S : own_Il Z h it tv sz c i) (K : Keep h h' ws) (q : ∀ x ∈ ws, own_Ot Z h [cVI, cNA, cND, cIN] x) : own_Il Z h' it tv sz c i := let ⟨j, a, b, c⟩ := S; ⟨j, a, b, c.keep K q⟩
theorem own_ilN {c : Int} {cv : Value} {iv : Int32} (E : Exa Z h it cVI) (D : Fld Z h it cHI "current" dND cv) (I : Fld Z h it cHI "index" "I" (.int iv)) (F : Fld Z h it cHI "next" dND .null) (hi : i ≤ 16) : own_Il Z h it tv sz c i := ⟨17, by omega, by omega, E, ⟨_, D⟩, ⟨_, I⟩, Or.inl F⟩
theorem own_ilS {c : Int} {t k : Nat} {idx : Int32} {cv : Value} (E : Exa Z h it cVI) (D : Fld Z h it cHI "current" dND cv) (e : tv = .ref t) (y : Exa Z h t cNA) (a : qA Z h t k (.object cND) 16 (fun i => fn i)) (B : own_Tb Z h fn) (hx : fn idx.toNatClampNeg = .ref nd) (F : Fld Z h it cHI "index" "I" (.int (idx + 1))) (G : Fld Z h it cHI "next" dND (.ref nd)) (N : own_Nd Z h nd hs key b x) (h1 : ¬ idx < 0) (h2 : idx < 16) (hi : i ≤ idx.toNatClampNeg) (hc : c ≤ own_ct fn i) (hs : (own_ct fn 16 : Int) = sz.toInt) : own_Il Z h it tv sz c i := by
  rw [Int32.lt_iff_toInt_lt] at h1 h2
  have e0 : (0 : Int32).toInt = 0 := rfl
  have e16 : (16 : Int32).toInt = 16 := rfl
  have e1 : (1 : Int32).toInt = 1 := rfl
  have hq : (idx + 1).toInt = idx.toInt + 1 := by rw [Int32.toInt_add, e1]; exact Int.bmod_eq_of_le (by omega) (by omega)
  have hn : (idx + 1).toNatClampNeg = idx.toNatClampNeg + 1 := by rw [Int32.toNatClampNeg, Int32.toNatClampNeg]; omega
  have hl : idx.toNatClampNeg < 16 := by rw [Int32.toNatClampNeg]; omega
  have hm := own_ctm (fn := fn) hi
  refine ⟨idx.toNatClampNeg + 1, by omega, by omega, E, ⟨_, D⟩, ⟨_, F⟩, Or.inr ⟨t, k, fn, idx + 1, nd, _, _, _, _, e, y, a, B, F, G, N, ?_, hn, by omega, ?_, hs⟩⟩
  · rw [Int32.lt_iff_toInt_lt]; omega
  · rw [own_ct, hx]; simp only [own_nn]; omega
end OwnMap
theorem own_sub {p : Program} {e : Env} {below : List Frame} {P : Outcome → State → Prop} {v w : Value} {f : Value → State} (q : v = w) (g : qG p e below P (f w)) : qG p e below P (f v) := by subst q; exact g
theorem own_c5 {P : Nat → Prop} (h0 : P 0) (h1 : P 1) (h2 : P 2) (h3 : P 3) (h4 : P 4) {i : Nat} (hi : i < 5) : P i := by
  match i, hi with
  | 0, _ => exact h0 | 1, _ => exact h1 | 2, _ => exact h2 | 3, _ => exact h3 | 4, _ => exact h4
theorem own_chn {x : Int32} {i : Nat} (h : x = own_ch i) (hi : i < 5) : ¬ (x = (0 : Int32)) := by
  subst h
  exact own_c5 (P := fun i => ¬ (own_ch i = 0)) (by decide) (by decide) (by decide) (by decide) (by decide) hi
theorem own_hsx {x : Int32} {i : Nat} (h : x = own_ch i) (hi : i < 5) : (x ^^^ ((x.toUInt32 >>> ((16 : Int32) &&& 31).toUInt32).toInt32)) = own_ch i := by
  subst h
  exact own_c5 (P := fun i => (own_ch i ^^^ (((own_ch i).toUInt32 >>> ((16 : Int32) &&& 31).toUInt32).toInt32)) = own_ch i) (by decide) (by decide) (by decide) (by decide) (by decide) hi
theorem own_ixx {x : Int32} {i : Nat} (h : x = own_ch i) (hi : i < 5) : ((15 : Int32) &&& (x ^^^ ((x.toUInt32 >>> ((16 : Int32) &&& 31).toUInt32).toInt32))).toNatClampNeg = i + 1 := by
  subst h
  exact own_c5 (P := fun i => ((15 : Int32) &&& (own_ch i ^^^ (((own_ch i).toUInt32 >>> ((16 : Int32) &&& 31).toUInt32).toInt32))).toNatClampNeg = i + 1) (by decide) (by decide) (by decide) (by decide) (by decide) hi
theorem own_ixb {x : Int32} {i : Nat} (h : x = own_ch i) (hi : i < 5) : (¬ ((15 : Int32) &&& (x ^^^ ((x.toUInt32 >>> ((16 : Int32) &&& 31).toUInt32).toInt32))) < 0) ∧ ((15 : Int32) &&& (x ^^^ ((x.toUInt32 >>> ((16 : Int32) &&& 31).toUInt32).toInt32))) < (16 : Int32) := by
  subst h
  exact own_c5 (P := fun i => (¬ ((15 : Int32) &&& (own_ch i ^^^ (((own_ch i).toUInt32 >>> ((16 : Int32) &&& 31).toUInt32).toInt32))) < 0) ∧ ((15 : Int32) &&& (own_ch i ^^^ (((own_ch i).toUInt32 >>> ((16 : Int32) &&& 31).toUInt32).toInt32))) < (16 : Int32)) (by decide) (by decide) (by decide) (by decide) (by decide) hi
theorem own_bxI {p : Int32} (h1 : ¬ p < (-128 : Int32)) (h2 : ¬ (127 : Int32) < p) : (p + 128).toInt = p.toInt + 128 := by
  rw [Int32.lt_iff_toInt_lt] at h1 h2
  have e1 : (-128 : Int32).toInt = -128 := rfl
  have e2 : (127 : Int32).toInt = 127 := rfl
  have e3 : (128 : Int32).toInt = 128 := rfl
  rw [Int32.toInt_add, e3]
  exact Int.bmod_eq_of_le (by omega) (by omega)
theorem own_bx1 {p : Int32} (h1 : ¬ p < (-128 : Int32)) (h2 : ¬ (127 : Int32) < p) : ¬ ((p + (128 : Int32)) < 0) := by
  have := own_bxI h1 h2
  rw [Int32.lt_iff_toInt_lt] at h1 h2 ⊢
  have e1 : (-128 : Int32).toInt = -128 := rfl
  have e0 : (0 : Int32).toInt = 0 := rfl
  omega
theorem own_bx2 {p : Int32} (h1 : ¬ p < (-128 : Int32)) (h2 : ¬ (127 : Int32) < p) : (p + (128 : Int32)) < 256 := by
  have := own_bxI h1 h2
  rw [Int32.lt_iff_toInt_lt] at h1 h2 ⊢
  have e1 : (127 : Int32).toInt = 127 := rfl
  have e0 : (256 : Int32).toInt = 256 := rfl
  omega
theorem own_bx3 {p : Int32} : p + (128 : Int32) - 128 = p := by
  rw [Int32.sub_eq_add_neg, Int32.add_assoc]
  exact (congrArg (p + ·) (by decide : (128 : Int32) + -128 = 0)).trans (Int32.add_zero p)
theorem own_l0 : (0 : Int32).toInt = 0 := rfl
theorem own_l1 : (1 : Int32).toInt = 1 := rfl
theorem own_l4 : (4 : Int32).toInt = 4 := rfl
theorem own_l5 : (5 : Int32).toInt = 5 := rfl
theorem own_l10 : (10 : Int32).toInt = 10 := rfl
theorem own_l16 : (16 : Int32).toInt = 16 := rfl
theorem own_l44 : (44 : Int32).toInt = 44 := rfl
theorem own_inc {z n : Int32} (h : z < n) : (z + 1).toInt = z.toInt + 1 := by
  rw [Int32.lt_iff_toInt_lt] at h
  have h1 := n.toInt_le
  have h2 := z.le_toInt
  have e1 : Int32.maxValue.toInt = 2147483647 := rfl
  have e2 : Int32.minValue.toInt = -2147483648 := rfl
  rw [Int32.toInt_add, own_l1]
  exact Int.bmod_eq_of_le (by omega) (by omega)
theorem own_sc1 {z : Int32} {j : Nat} (h : (¬ (z < (0 : Int32))) ∧ (z).toNatClampNeg ≤ 16 ∧ j ≤ (z).toNatClampNeg) (h2 : z < (16 : Int32)) : (¬ ((z + (1 : Int32)) < (0 : Int32))) ∧ ((z + (1 : Int32))).toNatClampNeg ≤ 16 ∧ j ≤ ((z + (1 : Int32))).toNatClampNeg := by
  have := own_inc h2
  simp only [Int32.lt_iff_toInt_lt, Int32.toNatClampNeg, own_l0, own_l16] at *
  omega
theorem own_sc2 {z : Int32} {j : Nat} (h : (¬ (z < (0 : Int32))) ∧ (z).toNatClampNeg ≤ 16 ∧ j ≤ (z).toNatClampNeg) (h2 : z < (16 : Int32)) : 16 - ((z + (1 : Int32))).toNatClampNeg < 16 - (z).toNatClampNeg := by
  have := own_inc h2
  simp only [Int32.lt_iff_toInt_lt, Int32.toNatClampNeg, own_l0, own_l16] at *
  omega
theorem own_sc3 {z : Int32} {j : Nat} (h : (¬ (z < (0 : Int32))) ∧ (z).toNatClampNeg ≤ 16 ∧ j ≤ (z).toNatClampNeg) (h2 : z < (16 : Int32)) : (z).toNatClampNeg < 16 := by
  simp only [Int32.lt_iff_toInt_lt, Int32.toNatClampNeg, own_l0, own_l16] at *
  omega
theorem own_sc4 {z : Int32} {j : Nat} (h : (¬ (z < (0 : Int32))) ∧ (z).toNatClampNeg ≤ 16 ∧ j ≤ (z).toNatClampNeg) : ¬ z < 0 := h.1
theorem own_sc5 {z : Int32} {j : Nat} (h : (¬ (z < (0 : Int32))) ∧ (z).toNatClampNeg ≤ 16 ∧ j ≤ (z).toNatClampNeg) : j ≤ (z).toNatClampNeg := h.2.2
theorem own_l65 : (65 : Int32).toInt = 65 := rfl
theorem own_dec {z : Int32} (h : ¬ z < 0) : (z - 1).toInt = z.toInt - 1 := by
  rw [Int32.lt_iff_toInt_lt, own_l0] at h
  have h1 := z.toInt_le
  have e1 : Int32.maxValue.toInt = 2147483647 := rfl
  rw [Int32.toInt_sub, own_l1]
  exact Int.bmod_eq_of_le (by omega) (by omega)
theorem own_i1n {z : Int32} : (z + (-1 : Int32)) + (1 : Int32) = z := by
  rw [Int32.add_assoc]
  exact (congrArg (z + ·) (by decide : (-1 : Int32) + (1 : Int32) = 0)).trans (Int32.add_zero z)
theorem own_i1m {z : Int32} : (z + 1) - 1 = z := by
  rw [Int32.sub_eq_add_neg, Int32.add_assoc]
  exact (congrArg (z + ·) (by decide : (1 : Int32) + -1 = 0)).trans (Int32.add_zero z)
theorem own_os {z : Int32} (h : (¬ (z < (0 : Int32))) ∧ (z).toNatClampNeg ≤ 5) : (z + 1).toInt = z.toInt + 1 := by
  simp only [Int32.lt_iff_toInt_lt, Int32.toNatClampNeg, own_l0] at h
  rw [Int32.toInt_add, own_l1]
  exact Int.bmod_eq_of_le (by omega) (by omega)
theorem own_os1 {z p : Int32} (h : (¬ (z < (0 : Int32))) ∧ (z).toNatClampNeg ≤ 5) (h2 : (z + (1 : Int32)) < p) (h5 : (p).toNatClampNeg ≤ 5) : (¬ ((z + (1 : Int32)) < (0 : Int32))) ∧ ((z + (1 : Int32))).toNatClampNeg ≤ 5 := by
  have := own_os h
  simp only [Int32.lt_iff_toInt_lt, Int32.toNatClampNeg, own_l0] at *
  omega
theorem own_os2 {z p : Int32} (h : (¬ (z < (0 : Int32))) ∧ (z).toNatClampNeg ≤ 5) (h2 : (z + (1 : Int32)) < p) (h5 : (p).toNatClampNeg ≤ 5) : 10 - ((z + (1 : Int32))).toNatClampNeg < 10 - (z).toNatClampNeg := by
  have := own_os h
  simp only [Int32.lt_iff_toInt_lt, Int32.toNatClampNeg, own_l0] at *
  omega
theorem own_is1 {z p : Int32} (h : (¬ (z < (0 : Int32))) ∧ (z).toNatClampNeg ≤ 5) (h2 : (z + (1 : Int32)) < p) : (¬ ((z + (1 : Int32)) < (0 : Int32))) ∧ (z + (1 : Int32)) < p := by
  have := own_os h
  simp only [Int32.lt_iff_toInt_lt, Int32.toNatClampNeg, own_l0] at *
  omega
theorem own_is2 {i p : Int32} (h : (¬ (i < (0 : Int32))) ∧ i < p) (h2 : ¬ ((i + (-1 : Int32)) < (0 : Int32))) : (¬ ((i + (-1 : Int32)) < (0 : Int32))) ∧ (i + (-1 : Int32)) < p := by
  have := own_dec h.1
  rw [Int32.sub_eq_add_neg] at this
  simp only [Int32.lt_iff_toInt_lt, own_l0] at *
  refine ⟨h2, ?_⟩
  have e : (i + (-1 : Int32)).toInt = i.toInt - 1 := this
  omega
theorem own_is3 {i p : Int32} (h : (¬ (i < (0 : Int32))) ∧ i < p) (h2 : ¬ ((i + (-1 : Int32)) < (0 : Int32))) : ((i + (-1 : Int32))).toNatClampNeg < (i).toNatClampNeg := by
  have := own_dec h.1
  rw [Int32.sub_eq_add_neg] at this
  have e : (i + (-1 : Int32)).toInt = i.toInt - 1 := this
  simp only [Int32.lt_iff_toInt_lt, Int32.toNatClampNeg, own_l0] at *
  omega
theorem own_ib1 {z p : Int32} (h : (¬ (z < (0 : Int32))) ∧ (z).toNatClampNeg ≤ 5) (h2 : (z + (1 : Int32)) < p) : (¬ (z + (1 : Int32)) < 0) ∧ (z + (1 : Int32)) < p := own_is1 h h2
theorem own_ib2 {z p : Int32} (h : (¬ (z < (0 : Int32))) ∧ (z).toNatClampNeg ≤ 5) (h2 : (z + (1 : Int32)) < p) : (¬ ((z + (1 : Int32)) - (1 : Int32)) < 0) ∧ ((z + (1 : Int32)) - (1 : Int32)) < p := by
  have := own_os h
  rw [own_i1m]
  simp only [Int32.lt_iff_toInt_lt, Int32.toNatClampNeg, own_l0] at *
  omega
theorem own_ib3 {i p : Int32} (h : (¬ (i < (0 : Int32))) ∧ i < p) (h2 : ¬ ((i + (-1 : Int32)) < (0 : Int32))) : (¬ (i + (-1 : Int32)) < 0) ∧ (i + (-1 : Int32)) < p := own_is2 h h2
theorem own_ib4 {i p : Int32} (h : (¬ (i < (0 : Int32))) ∧ i < p) : (¬ ((i + (-1 : Int32)) + (1 : Int32)) < 0) ∧ ((i + (-1 : Int32)) + (1 : Int32)) < p := by
  have : (i + (-1 : Int32)) + (1 : Int32) = i := own_i1n
  rw [this]; exact h
def own_G (C : Nat → Prop) (X : Nat → Int32) (g : Nat → Int32) (n : Nat) : Prop := ∀ j, j < n → (C j → g j = X j) ∧ (¬ C j → g j = 0)
theorem own_G0 {C : Nat → Prop} {X : Nat → Int32} {g : Nat → Int32} : own_G C X g 0 := fun j hj => absurd hj (Nat.not_lt_zero j)
theorem own_Gu {C : Nat → Prop} {X : Nat → Int32} {g : Nat → Int32} {n : Nat} {o : Int32} (h : own_G C X g n) (q : (C n → o = X n) ∧ (¬ C n → o = 0)) : own_G C X (qu g n o) (n + 1) := fun j hj => by
  by_cases e : j = n
  · subst e; rw [qu, if_pos rfl]; exact q
  · rw [qu, if_neg e]; exact h j (by omega)
theorem own_jr1 {C : Nat → Prop} {X : Nat → Int32} {g : Nat → Int32} {z n o : Int32} (h : (¬ (z < (0 : Int32))) ∧ (z).toNatClampNeg ≤ (n).toNatClampNeg ∧ own_G C X g (z).toNatClampNeg) (h2 : z < n) (q : (C (z).toNatClampNeg → o = X (z).toNatClampNeg) ∧ (¬ C (z).toNatClampNeg → o = (0 : Int32))) : (¬ ((z + (1 : Int32)) < (0 : Int32))) ∧ ((z + (1 : Int32))).toNatClampNeg ≤ (n).toNatClampNeg ∧ own_G C X (qu g (z).toNatClampNeg o) ((z + (1 : Int32))).toNatClampNeg := by
  have hi := own_inc h2
  obtain ⟨h1, h3, h4⟩ := h
  have e : ((z + (1 : Int32))).toNatClampNeg = (z).toNatClampNeg + 1 := by
    simp only [Int32.lt_iff_toInt_lt, Int32.toNatClampNeg, own_l0] at *
    omega
  refine ⟨?_, ?_, ?_⟩
  · simp only [Int32.lt_iff_toInt_lt, Int32.toNatClampNeg, own_l0] at *
    omega
  · rw [e]
    simp only [Int32.lt_iff_toInt_lt, Int32.toNatClampNeg, own_l0] at *
    omega
  · rw [e]; exact own_Gu h4 q
theorem own_jr2 {C : Nat → Prop} {X : Nat → Int32} {g : Nat → Int32} {z n : Int32} (h : (¬ (z < (0 : Int32))) ∧ (z).toNatClampNeg ≤ (n).toNatClampNeg ∧ own_G C X g (z).toNatClampNeg) (h2 : z < n) : (n).toNatClampNeg - ((z + (1 : Int32))).toNatClampNeg < (n).toNatClampNeg - (z).toNatClampNeg := by
  have hi := own_inc h2
  obtain ⟨h1, h3, -⟩ := h
  simp only [Int32.lt_iff_toInt_lt, Int32.toNatClampNeg, own_l0] at *
  omega
theorem own_Gx {C : Nat → Prop} {X : Nat → Int32} {g : Nat → Int32} {z n : Int32} (h : (¬ (z < (0 : Int32))) ∧ (z).toNatClampNeg ≤ (n).toNatClampNeg ∧ own_G C X g (z).toNatClampNeg) (h2 : ¬ (z < n)) : own_G C X g (n).toNatClampNeg := by
  have e : (z).toNatClampNeg = (n).toNatClampNeg := by
    obtain ⟨h1, h3, -⟩ := h
    simp only [Int32.lt_iff_toInt_lt, Int32.toNatClampNeg, own_l0] at *
    omega
  rw [← e]; exact h.2.2
theorem own_cb {fn : Nat → Value} {z sz : Int32} {j : Nat} (h : (z).toInt + 1 ≤ (own_ct fn j : Int)) (hj : j ≤ 16) (q : (own_ct fn 16 : Int) = sz.toInt) : z < sz := by
  have := own_ctm (fn := fn) hj
  rw [Int32.lt_iff_toInt_lt]; omega
theorem own_jb1 {z n : Int32} {j i : Nat} (h : (¬ (z < (0 : Int32))) ∧ (z).toNatClampNeg ≤ (n).toNatClampNeg ∧ i ≤ 17) (h2 : z < n) (h3 : j ≤ 17) : (¬ ((z + (1 : Int32)) < (0 : Int32))) ∧ ((z + (1 : Int32))).toNatClampNeg ≤ (n).toNatClampNeg ∧ j ≤ 17 := by
  have hi := own_inc h2
  simp only [Int32.lt_iff_toInt_lt, Int32.toNatClampNeg, own_l0] at *
  omega
theorem own_jb2 {z n : Int32} {j i : Nat} (h : (¬ (z < (0 : Int32))) ∧ (z).toNatClampNeg ≤ (n).toNatClampNeg ∧ i ≤ 17) (h3 : j ≤ 17) : (¬ (z < (0 : Int32))) ∧ (z).toNatClampNeg ≤ (n).toNatClampNeg ∧ j ≤ 17 := ⟨h.1, h.2.1, h3⟩
theorem own_jc1 {i z : Int32} (h : ¬ (i < (0 : Int32))) (h2 : i < z) : ¬ ((i + (1 : Int32)) < (0 : Int32)) := by
  have hi := own_inc h2
  simp only [Int32.lt_iff_toInt_lt, own_l0] at *
  omega
theorem own_jc2 {i z : Int32} (h : ¬ (i < (0 : Int32))) (h2 : i < z) : (z).toNatClampNeg - ((i + (1 : Int32))).toNatClampNeg < (z).toNatClampNeg - (i).toNatClampNeg := by
  have hi := own_inc h2
  simp only [Int32.lt_iff_toInt_lt, Int32.toNatClampNeg, own_l0] at *
  omega
theorem own_jd1 {C : Nat → Prop} {X : Nat → Int32} {g : Nat → Int32} {z n : Int32} (h : (¬ (z < (0 : Int32))) ∧ (z).toNatClampNeg ≤ (n).toNatClampNeg ∧ own_G C X g (z).toNatClampNeg) (h2 : z < n) : (¬ z < 0) ∧ z < n := ⟨h.1, h2⟩
theorem own_jd2 {z n : Int32} {i : Nat} (h : (¬ (z < (0 : Int32))) ∧ (z).toNatClampNeg ≤ (n).toNatClampNeg ∧ i ≤ 17) (h2 : z < n) : (¬ z < 0) ∧ z < n := ⟨h.1, h2⟩
theorem own_jd3 {i z : Int32} (h : ¬ (i < (0 : Int32))) (h2 : i < z) : (¬ ((z - (1 : Int32)) - i) < 0) ∧ ((z - (1 : Int32)) - i) < z := by
  simp only [Int32.lt_iff_toInt_lt, own_l0] at h h2
  have hz := z.toInt_le
  have em : Int32.maxValue.toInt = 2147483647 := rfl
  have e1 : (z - (1 : Int32)).toInt = z.toInt - 1 := own_dec (by rw [Int32.lt_iff_toInt_lt, own_l0]; omega)
  have e2 : ((z - (1 : Int32)) - i).toInt = z.toInt - 1 - i.toInt := by
    rw [Int32.toInt_sub, e1]
    exact Int.bmod_eq_of_le (by omega) (by omega)
  simp only [Int32.lt_iff_toInt_lt, own_l0, e2]
  omega
theorem own_c1 {P : Nat → Prop} (h0 : P 0) {i : Nat} (hi : i < 1) : P i := by
  match i, hi with
  | 0, _ => exact h0
theorem own_c2 {P : Nat → Prop} (h0 : P 0) (h1 : P 1) {i : Nat} (hi : i < 2) : P i := by
  match i, hi with
  | 0, _ => exact h0 | 1, _ => exact h1
theorem own_c3 {P : Nat → Prop} (h0 : P 0) (h1 : P 1) (h2 : P 2) {i : Nat} (hi : i < 3) : P i := by
  match i, hi with
  | 0, _ => exact h0 | 1, _ => exact h1 | 2, _ => exact h2
theorem own_c4 {P : Nat → Prop} (h0 : P 0) (h1 : P 1) (h2 : P 2) (h3 : P 3) {i : Nat} (hi : i < 4) : P i := by
  match i, hi with
  | 0, _ => exact h0 | 1, _ => exact h1 | 2, _ => exact h2 | 3, _ => exact h3
def own_bit : Nat → Int32 | 0 => 1 | 1 => 2 | 2 => 4 | 3 => 8 | _ => 16
def own_C (J : Int32) (k i : Nat) : Prop := i < k ∧ ¬ ((J &&& own_bit i) = (0 : Int32))
def own_X (r0 r1 r2 r3 r4 : Int32) : Nat → Int32 | 0 => r0 | 1 => r1 | 2 => r2 | 3 => r3 | _ => r4
theorem own_Cs {J : Int32} (i : Nat) : ∀ j, j < 5 → j ≠ i → (own_C J (i + 1) j ↔ own_C J i j) := fun j _ q => ⟨fun h => ⟨by have := h.1; omega, h.2⟩, fun h => ⟨by have := h.1; omega, h.2⟩⟩
theorem own_Ci {J : Int32} (i : Nat) (h : ¬ ((J &&& own_bit i) = (0 : Int32))) : own_C J (i + 1) i := ⟨Nat.lt_succ_self i, h⟩
theorem own_Cn {J : Int32} (i : Nat) (h : (J &&& own_bit i) = (0 : Int32)) : ∀ j, j < 5 → (own_C J (i + 1) j ↔ own_C J i j) := fun j hj => by
  by_cases e : j = i
  · subst e; exact ⟨fun q => absurd h q.2, fun q => absurd h q.2⟩
  · exact own_Cs i j hj e
theorem own_SlN {Z : State} {h : Heap} {v : Value} {hs x : Int32} {key : Addr} {c : Prop} (S : own_Sl Z h v hs key c x) (q : ¬ c) : v = .null := by
  rcases S with ⟨-, r⟩ | ⟨r, -⟩
  · exact r
  · exact absurd r q
theorem own_ctP {fn : Nat → Value} {idx i nd : Nat} (q : fn idx = .null) (hx : idx = i + 1) (hi : i < 5) : own_ct (qu fn idx (.ref nd)) 16 = own_ct fn 16 + 1 := by rw [own_ctu q, if_pos (by omega)]
theorem own_szN {idx i nd : Nat} (hx : idx = i + 1) (hi : i < 5) : (1 : Int32).toInt = (own_ct (qu (fun _ => Value.null) idx (.ref nd)) 16 : Int) ∧ True := ⟨by rw [own_ctP rfl hx hi, own_ct0]; rfl, trivial⟩
theorem own_szT {fn : Nat → Value} {idx i nd : Nat} {sz : Int32} {k : Int} (c1 : sz.toInt = own_ct fn 16) (c2 : sz.toInt ≤ k) (hk : k ≤ 5) (q : fn idx = .null) (hx : idx = i + 1) (hi : i < 5) : (sz + (1 : Int32)).toInt = (own_ct (qu fn idx (.ref nd)) 16 : Int) ∧ (sz + (1 : Int32)).toInt ≤ k + 1 := by
  have e : (sz + (1 : Int32)).toInt = sz.toInt + 1 := own_inc (n := 6) (by rw [Int32.lt_iff_toInt_lt]; have : (6 : Int32).toInt = 6 := rfl; omega)
  rw [own_ctP q hx hi, e]
  omega
theorem own_pt {s : Int32} {i : Int} (h : (s).toInt ≤ i) (hi : i ≤ 5) : ¬ ((12 : Int32) < (s + (1 : Int32))) := by
  have e : (s + (1 : Int32)).toInt = s.toInt + 1 := own_inc (n := 6) (by rw [Int32.lt_iff_toInt_lt]; have : (6 : Int32).toInt = 6 := rfl; omega)
  have e12 : (12 : Int32).toInt = 12 := rfl
  rw [Int32.lt_iff_toInt_lt]; omega
theorem own_lt1 {v a b : Int32} (h : v < a) (q : a.toInt ≤ b.toInt) : v < b := by
  rw [Int32.lt_iff_toInt_lt] at *; omega
theorem own_eqk {k v a : Int32} (h : v < a) (h2 : ¬ (v < k)) (ha : a.toInt = k.toInt + 1) : k = v := by
  rw [Int32.lt_iff_toInt_lt] at *
  apply Int32.toInt_inj.mp; omega
theorem own_rem5 (x : Int32) : 0 ≤ ((x &&& 7) % 5).toInt ∧ ((x &&& 7) % 5).toInt < 5 := by
  have h1 := c_and x 7 (by decide)
  have h2 := (c_irem (x &&& 7) 5 5 rfl).1 h1.1
  rw [h2]; exact ⟨Int.emod_nonneg _ (by omega), Int.emod_lt_of_pos _ (by omega)⟩
theorem own_mod0 {p v : Int32} (h : ((p &&& (7 : Int32)) % (5 : Int32)) = v) : ¬ (v < (0 : Int32)) := by
  subst h; have := own_rem5 p; rw [Int32.lt_iff_toInt_lt, own_l0]; omega
theorem own_mod5 {p v : Int32} (h : ((p &&& (7 : Int32)) % (5 : Int32)) = v) : v < (5 : Int32) := by
  subst h; have := own_rem5 p; rw [Int32.lt_iff_toInt_lt, own_l5]; omega
theorem own_n5 {n : Int32} (h0 : ¬ (n < (0 : Int32))) (h5 : n < (5 : Int32)) : n = 0 ∨ n = 1 ∨ n = 2 ∨ n = 3 ∨ n = 4 := by
  rw [Int32.lt_iff_toInt_lt] at h0 h5
  rw [own_l0] at h0; rw [own_l5] at h5
  have : n.toInt = 0 ∨ n.toInt = 1 ∨ n.toInt = 2 ∨ n.toInt = 3 ∨ n.toInt = 4 := by omega
  rcases this with e | e | e | e | e
  · exact Or.inl (Int32.toInt_inj.mp e)
  · exact Or.inr (Or.inl (Int32.toInt_inj.mp e))
  · exact Or.inr (Or.inr (Or.inl (Int32.toInt_inj.mp e)))
  · exact Or.inr (Or.inr (Or.inr (Or.inl (Int32.toInt_inj.mp e))))
  · exact Or.inr (Or.inr (Or.inr (Or.inr (Int32.toInt_inj.mp e))))
def own_rr (n : Int32) (g : Nat → Int32) : UInt64 := if ¬ (n < 1) ∧ ¬ (g 0 < 1) then 4607182418800017408 else if ¬ (n < 2) ∧ ¬ (g 1 < 1) then 4602678819172646912 else if ¬ (n < 3) ∧ ¬ (g 2 < 1) then 4599676419421066581 else if ¬ (n < 4) ∧ ¬ (g 3 < 1) then 4598175219545276416 else 0
def own_e4 (e0 e1 e2 e3 : Int32) : Nat → Int32 | 0 => e0 | 1 => e1 | 2 => e2 | _ => e3
theorem own_dv1 : FP.ddiv FP.dconst1 (FP.i2d (1 : Int32)) = 4607182418800017408 := by decide +kernel
theorem own_dv2 : FP.ddiv FP.dconst1 (FP.i2d (2 : Int32)) = 4602678819172646912 := by decide +kernel
theorem own_dv3 : FP.ddiv FP.dconst1 (FP.i2d (3 : Int32)) = 4599676419421066581 := by decide +kernel
theorem own_dv4 : FP.ddiv FP.dconst1 (FP.i2d (4 : Int32)) = 4598175219545276416 := by decide +kernel
theorem own_dz : FP.dconst0 = 0 := by decide +kernel
theorem own_d1 : FP.dconst1 = 4607182418800017408 := by decide +kernel
theorem own_rb {n a b : Int32} (h : ¬ (n < a)) (q : b.toInt + 1 = a.toInt ∧ 0 ≤ b.toInt) : (¬ b < 0) ∧ b < n := by
  rw [Int32.lt_iff_toInt_lt] at *
  rw [Int32.lt_iff_toInt_lt, own_l0]; omega
theorem own_rrC {n : Int32} {g g' : Nat → Int32} (h0 : ¬ (n < (0 : Int32))) (h5 : n < (5 : Int32)) (h : ∀ i, i < (n).toNatClampNeg → g i = g' i) : own_rr n g = own_rr n g' := by
  have k0 : ∀ a b : Int32, (¬ (n < a) → a.toInt = b.toInt + 1 → 0 ≤ b.toInt → g b.toNatClampNeg = g' b.toNatClampNeg) := fun a b q e e0 => h _ (by
    rw [Int32.lt_iff_toInt_lt] at q; simp only [Int32.toNatClampNeg]; omega)
  have q0 : ¬ (n < 1) → g 0 = g' 0 := fun q => k0 1 0 q (by decide) (by decide)
  have q1 : ¬ (n < 2) → g 1 = g' 1 := fun q => k0 2 1 q (by decide) (by decide)
  have q2 : ¬ (n < 3) → g 2 = g' 2 := fun q => k0 3 2 q (by decide) (by decide)
  have q3 : ¬ (n < 4) → g 3 = g' 3 := fun q => k0 4 3 q (by decide) (by decide)
  have c0 : (¬ (n < 1) ∧ ¬ (g 0 < 1)) = (¬ (n < 1) ∧ ¬ (g' 0 < 1)) := propext (and_congr_right fun q => by rw [q0 q])
  have c1 : (¬ (n < 2) ∧ ¬ (g 1 < 1)) = (¬ (n < 2) ∧ ¬ (g' 1 < 1)) := propext (and_congr_right fun q => by rw [q1 q])
  have c2 : (¬ (n < 3) ∧ ¬ (g 2 < 1)) = (¬ (n < 3) ∧ ¬ (g' 2 < 1)) := propext (and_congr_right fun q => by rw [q2 q])
  have c3 : (¬ (n < 4) ∧ ¬ (g 3 < 1)) = (¬ (n < 4) ∧ ¬ (g' 3 < 1)) := propext (and_congr_right fun q => by rw [q3 q])
  simp only [own_rr, c0, c1, c2, c3]
theorem own_cmpS {n : Int32} {g : Nat → Int32} : cmpValue (FP.dcmp (own_rr n g) (own_rr n g)) .l = (0 : Int32) := by
  unfold own_rr
  split
  · decide +kernel
  · split
    · decide +kernel
    · split
      · decide +kernel
      · split
        · decide +kernel
        · decide +kernel
theorem own_gi {J e r : Int32} {X g : Nat → Int32} {n : Int32} {i : Nat} (hG : own_G (own_C J 5) X g (n).toNatClampNeg) (hi : i < 5) (hX : X i = r) (d : ((J &&& own_bit i) = (0 : Int32) ∧ e = (0 : Int32)) ∨ ((¬ ((J &&& own_bit i) = (0 : Int32))) ∧ e = r)) (h : i < (n).toNatClampNeg) : g i = e := by
  rcases d with ⟨q, rfl⟩ | ⟨q, rfl⟩
  · exact (hG i h).2 fun c => c.2 q
  · rw [← hX]; exact (hG i h).1 ⟨hi, q⟩
theorem own_finA {o1 o2 : UInt64} {n J e0 e1 e2 e3 r0 r1 r2 r3 r4 : Int32} {g : Nat → Int32} (h1 : ¬ ((cmpValue (FP.dcmp o1 o2) .l) = (0 : Int32))) (h2 : o1 = own_rr n g) (h3 : o2 = own_rr n (own_e4 e0 e1 e2 e3)) (hG : own_G (own_C J 5) (own_X r0 r1 r2 r3 r4) g (n).toNatClampNeg)
    (d0 : (((J &&& (1 : Int32)) = (0 : Int32)) ∧ e0 = (0 : Int32)) ∨ ((¬ ((J &&& (1 : Int32)) = (0 : Int32))) ∧ e0 = r0)) (d1 : (((J &&& (2 : Int32)) = (0 : Int32)) ∧ e1 = (0 : Int32)) ∨ ((¬ ((J &&& (2 : Int32)) = (0 : Int32))) ∧ e1 = r1)) (d2 : (((J &&& (4 : Int32)) = (0 : Int32)) ∧ e2 = (0 : Int32)) ∨ ((¬ ((J &&& (4 : Int32)) = (0 : Int32))) ∧ e2 = r2)) (d3 : (((J &&& (8 : Int32)) = (0 : Int32)) ∧ e3 = (0 : Int32)) ∨ ((¬ ((J &&& (8 : Int32)) = (0 : Int32))) ∧ e3 = r3))
    (hn0 : ¬ (n < (0 : Int32))) (hn5 : n < (5 : Int32)) : False := by
  refine h1 ?_
  have e : own_rr n (own_e4 e0 e1 e2 e3) = own_rr n g := own_rrC hn0 hn5 fun i hi => by
    have h4 : i < 4 := by
      rw [Int32.lt_iff_toInt_lt, own_l5] at hn5
      rw [Int32.toNatClampNeg] at hi; omega
    refine (own_c4 (P := fun i => i < (n).toNatClampNeg → own_e4 e0 e1 e2 e3 i = g i) ?_ ?_ ?_ ?_ h4) hi
    · exact fun h => (own_gi (i := 0) hG (by decide) rfl d0 h).symm
    · exact fun h => (own_gi (i := 1) hG (by decide) rfl d1 h).symm
    · exact fun h => (own_gi (i := 2) hG (by decide) rfl d2 h).symm
    · exact fun h => (own_gi (i := 3) hG (by decide) rfl d3 h).symm
  rw [h2, h3, e]
  exact own_cmpS
section OwnSta
variable {args : Array Value} {s : State} {t : Term} {a : Addr} {c : Cell} {K : String} {z : Int32}
theorem own_ne0 (h : (Jvm.Cond.not (Jvm.Cond.eq t (Jvm.Term.int (0 : Int32)))).value args s none s [] = some true) (ev : t.eval args s none [] s = some (.int z)) : ¬ (z = (0 : Int32)) := fun q => by
  subst q
  have e2 : (Term.int (0 : Int32)).eval args s none [] s = some (.int 0) := rfl
  simp [Cond.value, ev, e2] at h
theorem own_len (ev : t.eval args s none [] s = some (.ref a)) (ha : s.arrayAt? a = some c) (h : (Term.length t).eval args s none [] s = some (.int z)) : c.slots.size < 2 ^ 31 ∧ c.slots.size.toInt32 = z := by
  by_cases q : c.slots.size < 2 ^ 31
  · rw [len_f ev ha q] at h
    exact ⟨q, by cases h; rfl⟩
  · simp [Term.eval, ev, ha, q] at h
theorem own_lenN (q : c.slots.size < 2 ^ 31) (e : c.slots.size.toInt32 = z) : c.slots.size = z.toNatClampNeg := by
  rw [← e]; simp only [Int32.toNatClampNeg, len_toInt q]; rfl
theorem own_arf0 (ev : t.eval args s none [] s = some (.ref a)) (h1 : (Cond.arrayOf t (.object K)).value args s none s [] = some true) (h2 : (Cond.eq (Term.length t) (Term.int (0 : Int32))).value args s none s [] = some true) : ∃ (k : ClassId) (fn : Nat → Value), qA s s.heap a k (.object K) (0 : Int32) (fun i => fn i) := by
  obtain ⟨c, A⟩ := Arr.start ev h1
  obtain ⟨q, e⟩ := own_len ev (A.fin (Vm.Alike.refl _)) (eqv_i rfl h2)
  have hn := own_lenN q e
  have h0 : c.slots.size = 0 := hn.trans rfl
  exact ⟨c.cls, fun _ => .null, c, A, rfl, hn, by decide, fun i hi => by omega, fun i hi => by omega⟩
theorem own_caS {C n d : String} (ev : (Term.static C n d).eval args s none [] s = some (.ref a)) (h1 : (Cond.arrayOf (Term.static C n d) (.object cIN)).value args s none s [] = some true) (hx : (Cond.exactly (Term.static C n d) "[Ljava/lang/Integer;").value args s none s [] = some true) (h2 : (Cond.eq (Term.length (Term.static C n d)) (Term.int (256 : Int32))).value args s none s [] = some true)
    (h3 : (Cond.all (Term.static C n d) (.and (.exactly (.elem (Term.static C n d) (.index 0)) cIN) (.eq (.field (.elem (Term.static C n d) (.index 0)) cIN "value" "I") (.sub (.index 0) (.int (128 : Int32)))))).value args s none s [] = some true) : ∃ (k : ClassId) (fn : Nat → Value), own_Ca s s.heap a k fn := by
  obtain ⟨c, A⟩ := Arr.start ev h1
  obtain ⟨q, e⟩ := own_len ev (A.fin (Vm.Alike.refl _)) (eqv_i rfl h2)
  have et : ∀ idx, (Term.static C n d).eval args s none idx s = some (.ref a) := fun idx => by
    have e0 := ev
    simp only [Term.eval] at e0 ⊢
    exact e0
  have B : Bxs s a c cIN "I" 256 (fun j => .int (j - 128)) := Bxs.start et A q e (by decide) h3 (fun X j hj hv => eqv_i (by simp [Term.eval]; exact (back32 hj).1) hv)
  obtain ⟨-, hn, -, hB⟩ := B
  have h256 : c.slots.size = 256 := hn.trans rfl
  have hall : ∀ i, i < c.slots.size → ∃ b : Addr, c.slots[i]? = some (.ref b) := fun i hi => by
    obtain ⟨b, r, -⟩ := hB (Int32.ofNat i) (by
      have e1 : (Int32.ofNat i).toInt = i := Int32.toInt_ofNat_of_lt (by omega)
      rintro (x | x)
      · rw [Int32.lt_iff_toInt_lt, e1, own_l0] at x; omega
      · rw [Int32.toNatClampNeg, e1] at x; omega)
    have e1 : (Int32.ofNat i).toInt = i := Int32.toInt_ofNat_of_lt (by omega)
    have e2 : (Int32.ofNat i).toNatClampNeg = i := by rw [Int32.toNatClampNeg, e1]; rfl
    rw [e2] at r; exact ⟨b, r⟩
  refine ⟨c.cls, fun i => (c.slots[i]?).getD .null, ⟨c, A, rfl, hn, by decide, fun i hi => ?_, fun i hi => ?_⟩, Exa.start ev hx, fun j h4 h5 => ?_⟩
  · obtain ⟨b, r⟩ := hall i hi
    show c.slots[i]? = some ((c.slots[i]?).getD .null)
    rw [r]; rfl
  · obtain ⟨b, r⟩ := hall i hi
    show fits _ ((c.slots[i]?).getD .null) = true
    rw [r]; rfl
  · obtain ⟨b, r, E, F⟩ := hB j (by
      rintro (x | x)
      · exact h4 x
      · rw [Int32.lt_iff_toInt_lt] at h4 h5
        have e256 : (256 : Int32).toInt = 256 := rfl
        rw [Int32.toNatClampNeg] at x; omega)
    exact ⟨b, by show (c.slots[j.toNatClampNeg]?).getD .null = _; rw [r]; rfl, E, F⟩
theorem own_eqV (h : (Jvm.Cond.eq t (Jvm.Term.int z)).value args s none s [] = some true) : t.eval args s none [] s = some (.int z) := eqv_i rfl h
end OwnSta
set_option maxRecDepth 65536
set_option maxHeartbeats 40000000
abbrev vI (x : Int32) : Slot := Slot.val (Value.int x)
abbrev vR (x : Addr) : Slot := Slot.val (Value.ref x)
abbrev vD (x : UInt64) : Slot := Slot.val (Value.double x)
theorem qn {a b n : Nat} (h1 : a < n) (h2 : n ≤ b) : a ≠ b := Nat.ne_of_lt (Nat.lt_of_lt_of_le h1 h2)
theorem qm {a b n : Nat} (h1 : a < n) (h2 : n ≤ b) : b ≠ a := (Nat.ne_of_lt (Nat.lt_of_lt_of_le h1 h2)).symm
theorem d3 : own_ds jdk_43_method_46_code [(0, .iconst 1, 1), (1, .newarray .byte, 2), (3, .dup, 1), (4, .iconst 0, 1), (5, .iload_n 0, 1), (6, .i2b, 1), (7, .bastore, 1), (8, .areturn, 1)] = true := by decide +kernel
theorem pn_l1tb : plainName "java/lang/StringLatin1" = true := by first | (simp [plainName, overriddenIn]; done) | decide +kernel
theorem ef_l1tb (m : MethodId) (p0 : Int32) : entryFrame m #[(.int p0)] 1 = mkF m 0 #[vI p0] [] := rfl
def Ql1tb (Z : State) (p0 : Int32) (h0 : Heap) (n0 : Nat) (v : Option Value) (h : Heap) (L : List Loc) : Prop := ∃ (b1 : Addr) (k1 : ClassId), v = some (.ref b1) ∧ Fr n0 L ∧ Keep h0 h [] ∧ (n0 ≤ b1) ∧ (h0.size ≤ b1) ∧ Exa Z h b1 "[B" ∧ qA Z h b1 k1 .byte (1 : Int32) (fun i => .int ((qu (fun _ => (0 : Int32)) 0 (nar .byte (p0.toInt8.toInt32))) i))
theorem rml1tb (l : Launch) (Z : State) (A0 : Array Value) (hw : ∀ d ∈ tables_1, d.before A0 Z = true) (ws : List Jvm.Cond) (p0 : Int32) (h0 : Heap) (n0 : Nat) (Z0 : n0 ≤ h0.size) :
  qM l Z (⟨"java/lang/StringLatin1", "toBytes", "(C)[B"⟩ : MethodName) jdk_43_method_46_code 1 (some (.array .byte)) ws ({ frames := 0, cells := 1, slots := 1, locals := 0 } : Room) #[(.int p0)] h0 (Ql1tb Z p0 h0 n0) 1 1 := qe d3 (plainFor_of_name pn_l1tb) (fun m => ef_l1tb m p0) fun p e s m below meth c s₁ hx y hml hlk hown hnm X0 e0 hZ hrt => by
 have hwd := qw hw
 have N0 := Fr.nil n0
 show qG p e below _ (s₁.setTop (mkF m 0 #[vI p0] []))
 refine qb (fun _ k => XS.iconst X0.here hx rfl (y 0 rfl) k) ?_
 obtain ⟨T1, h1, k1, X1, e1, E1, A1, Ax1, st1⟩ := newPE X0 hx hZ (hwd 14 rfl) e0 (g := (mkF m 1 #[vI p0] [(.int 1)])) rfl (y 1 rfl) rfl (by decide) (cap := 1) (by decide) (by decide) (by decide) (by decide) (ad := "[B") (by decide)
 obtain ⟨b1, g1⟩ : ∃ z, z = h0.size := ⟨_, rfl⟩
 have ge_b1 : n0 ≤ b1 := ql Z0 (Nat.le_of_eq g1.symm)
 have sz_b1 := ql (Keep.refl h0 []).1 (Nat.le_of_eq g1.symm)
 have K1 : Keep h0 h1 [] := (Keep.refl h0 []).ext E1
 have Z1 := ql Z0 E1.1
 rw [← g1] at A1 Ax1 st1
 have V1 : qA Z h1 b1 k1 .byte (1 : Int32) (fun i => .int ((fun _ => (0 : Int32)) i)) := own_arfNew A1 (by decide)
 refine qb st1 ?_
 show qG p e below _ (T1.setTop (mkF m 3 #[vI p0] [(.ref b1)]))
 refine qb (fun _ k => XS.dup X1.here hx rfl (y 2 rfl) rfl rfl k) ?_
 refine qb (fun _ k => XS.iconst X1.here hx rfl (y 3 rfl) k) ?_
 refine qb (fun _ k => XS.iloadN X1.here hx rfl (y 4 rfl) rfl k) ?_
 refine qb (fun _ k => XS.i2b X1.here hx rfl (y 5 rfl) rfl k) ?_
 obtain ⟨cl2, Ar2, qq2, S2, M2, H2, G2⟩ := id V1
 have hin2 : ¬ ((0 : Int32) < 0 ∨ cl2.slots.size ≤ ((0 : Int32)).toNatClampNeg) := inb_of S2 ⟨by decide, by decide⟩
 obtain ⟨T3, h3, X3, e3, W3, st3⟩ := stB X1 hx hZ e1 Ar2 (j := (0 : Int32)) hin2 (g := (mkF m 7 #[vI p0] [(.int (p0.toInt8.toInt32)), (.int 0), (.ref b1), (.ref b1)])) rfl rfl (y 6 rfl)
 have V3 : qA Z h3 b1 k1 .byte (1 : Int32) (fun i => .int ((qu (fun _ => (0 : Int32)) 0 (nar .byte (p0.toInt8.toInt32))) i)) := own_arfSetI Ar2 qq2 S2 M2 H2 G2 (fits_nar_byte _) W3
 have K3 : Keep h0 h3 [] := K1.wr W3 (Or.inr sz_b1)
 have Z3 := ql Z1 (Keep.of_wr W3).1
 have N3 := Fr.snoc X3 N0 ge_b1
 refine qb st3 ?_
 have F4 := (Ax1.wr W3)
 exact own_retR X3 hx hrt (by decide) rfl (y 7 rfl) hlk e3 ⟨_, _, rfl, N3, K3, ge_b1, sz_b1, F4, V3⟩ (by decide) (by decide)
theorem d2 : own_ds jdk_43_method_3_code [(0, .iload_n 0, 1), (1, .sipush 255, 3), (4, .if_icmp .gt 7, 3), (7, .iconst 1, 1), (8, .goto 4, 3), (12, .ireturn, 1)] = true := by decide +kernel
theorem ef_canL (m : MethodId) (p0 : Int32) : entryFrame m #[(.int p0)] 1 = mkF m 0 #[vI p0] [] := rfl
def QcanL (Z : State) (p0 : Int32) (h0 : Heap) (n0 : Nat) (v : Option Value) (h : Heap) (L : List Loc) : Prop := v = some (.int 1) ∧ Fr n0 L ∧ h = h0
theorem rmcanL (l : Launch) (Z : State) (A0 : Array Value) (hw : ∀ d ∈ tables_1, d.before A0 Z = true) (ws : List Jvm.Cond) (p0 : Int32) (h0 : Heap) (n0 : Nat) (Z0 : n0 ≤ h0.size) (ha4 : ¬ ((255 : Int32) < p0)) :
  qM l Z (⟨"java/lang/StringLatin1", "canEncode", "(C)Z"⟩ : MethodName) jdk_43_method_3_code 1 (some .boolean) ws ({ frames := 0, cells := 0, slots := 0, locals := 0 } : Room) #[(.int p0)] h0 (QcanL Z p0 h0 n0) 0 0 := qe d2 (plainFor_of_name pn_l1tb) (fun m => ef_canL m p0) fun p e s m below meth c s₁ hx y hml hlk hown hnm X0 e0 hZ hrt => by
 have hwd := qw hw
 have N0 := Fr.nil n0
 show qG p e below _ (s₁.setTop (mkF m 0 #[vI p0] []))
 refine qb (fun _ k => XS.iloadN X0.here hx rfl (y 0 rfl) rfl k) ?_
 refine qb (fun _ k => XS.sipush X0.here hx rfl (y 1 rfl) k) ?_
 refine qb (fun _ k => XS.icmpNo X0.here hx rfl (y 2 rfl) rfl (flt ha4).2.2.1 k) ?_
 show qG p e below _ (s₁.setTop (mkF m 7 #[vI p0] []))
 refine qb (fun _ k => XS.iconst X0.here hx rfl (y 3 rfl) k) ?_
 refine qb (fun _ k => XS.goto X0.here hx rfl (pc0 := 8) (pc' := 12) rfl (y 4 rfl) (by decide) (by decide) k) ?_
 show qG p e below _ (s₁.setTop (mkF m 12 #[vI p0] [(.int 1)]))
 exact own_retN X0 hx (t := .boolean) hrt (by simp) (y 5 rfl) hlk e0 ⟨rfl, N0, rfl⟩ (by decide) (by decide)
theorem d4 : own_ds jdk_42_method_151_code [(0, .aload_n 0, 1), (1, .invokespecial 1, 3), (4, .aload_n 0, 1), (5, .aload_n 1, 1), (6, .putfield 9, 3), (9, .aload_n 0, 1), (10, .iload_n 2, 1), (11, .putfield 15, 3), (14, .return_, 1)] = true := by decide +kernel
theorem pn_sbbL : plainName "java/lang/String" = true := by first | (simp [plainName, overriddenIn]; done) | decide +kernel
theorem ef_sbbL (m : MethodId) (a0 a1 : Addr) : entryFrame m #[(.ref a0), (.ref a1), (.int 0)] 3 = mkF m 0 #[vR a0, vR a1, vI 0] [] := rfl
def QsbbL (Z : State) (a0 a1 : Addr) (f_a0_value : Value) (f_a0_coder f_a0_hash f_a0_hashIsZero : Int32) (h0 : Heap) (n0 : Nat) (v : Option Value) (h : Heap) (L : List Loc) : Prop := v = none ∧ Fr n0 L ∧ Keep h0 h [a0] ∧ Exa Z h a0 "java/lang/String" ∧ Fld Z h a0 cST "value" "[B" (.ref a1) ∧ Fld Z h a0 cST "coder" "B" (.int (nar .byte (0 : Int32))) ∧ Fld Z h a0 cST "hash" "I" (.int f_a0_hash) ∧ Fld Z h a0 cST "hashIsZero" "Z" (.int f_a0_hashIsZero)
theorem rmsbbL (l : Launch) (Z : State) (A0 : Array Value) (hw : ∀ d ∈ tables_1, d.before A0 Z = true) (ws : List Jvm.Cond) (a0 a1 : Addr) (f_a0_value : Value) (f_a0_coder f_a0_hash f_a0_hashIsZero : Int32) (h0 : Heap) (n0 : Nat) (Z0 : n0 ≤ h0.size) (P_E_a0 : Exa Z h0 a0 "java/lang/String") (P_F_a0_value : Fld Z h0 a0 cST "value" "[B" f_a0_value) (g_a0 : n0 ≤ a0) (P_F_a0_coder : Fld Z h0 a0 cST "coder" "B" (.int f_a0_coder)) (P_F_a0_hash : Fld Z h0 a0 cST "hash" "I" (.int f_a0_hash)) (P_F_a0_hashIsZero : Fld Z h0 a0 cST "hashIsZero" "Z" (.int f_a0_hashIsZero)) :
  qM l Z (⟨"java/lang/String", "<init>", "([BB)V"⟩ : MethodName) jdk_42_method_151_code 3 none ws ({ frames := 1, cells := 0, slots := 0, locals := 12 } : Room) #[(.ref a0), (.ref a1), (.int 0)] h0 (QsbbL Z a0 a1 f_a0_value f_a0_coder f_a0_hash f_a0_hashIsZero h0 n0) 0 0 := qe d4 (plainFor_of_name pn_sbbL) (fun m => ef_sbbL m a0 a1) fun p e s m below meth c s₁ hx y hml hlk hown hnm X0 e0 hZ hrt => by
 have hwd := qw hw
 have N0 := Fr.nil n0
 show qG p e below _ (s₁.setTop (mkF m 0 #[vR a0, vR a1, vI 0] []))
 refine qb (fun _ k => XS.aloadN X0.here hx rfl (y 0 rfl) rfl rfl k) ?_
 obtain ⟨T1, X1, e1, st1⟩ := initO X0 hx hZ hown (hwd 19 rfl) (hwd 20 rfl) (hwd 21 rfl) e0 (g := (mkF m 1 #[vR a0, vR a1, vI 0] [(.ref a0)])) rfl (by rw [hml]; rfl) rfl (y 1 rfl) (by decide) (W := 0) (by show 2 * 0 + _ ≤ _; exact Nat.le_of_eq rfl) (by decide)
 refine qb st1 ?_
 show qG p e below _ (T1.setTop (mkF m 4 #[vR a0, vR a1, vI 0] []))
 refine qb (fun _ k => XS.aloadN X1.here hx rfl (y 2 rfl) rfl rfl k) ?_
 refine qb (fun _ k => XS.aloadN X1.here hx rfl (y 3 rfl) rfl rfl k) ?_
 obtain ⟨T2, h2, X2, e2, W2, st2⟩ := putF X1 hx hZ hown (host := "") (Or.inl (hwd 22 rfl)) Via.refl e1 P_F_a0_value P_E_a0 (Or.inr ⟨(hwd 23 rfl), rfl, hnm⟩) (hwd 10 rfl) (ty := (.array .byte)) (by decide) rfl rfl (g := (mkF m 6 #[vR a0, vR a1, vI 0] [(.ref a1), (.ref a0)])) rfl rfl (y 4 rfl)
 have Fw2 : Fld Z h2 a0 cST "value" "[B" (.ref a1) := P_F_a0_value.same W2
 have K2 : Keep h0 h2 [a0] := (Keep.refl h0 [a0]).wr W2 (Or.inl (List.mem_of_getElem? (i := 0) rfl))
 have Z2 := ql Z0 (Keep.of_wr W2).1
 have N2 := Fr.snoc X2 N0 g_a0
 refine qb st2 ?_
 show qG p e below _ (T2.setTop (mkF m 9 #[vR a0, vR a1, vI 0] []))
 refine qb (fun _ k => XS.aloadN X2.here hx rfl (y 5 rfl) rfl rfl k) ?_
 refine qb (fun _ k => XS.iloadN X2.here hx rfl (y 6 rfl) rfl k) ?_
 have F3 := (P_E_a0.wr W2)
 have F4 := (P_F_a0_coder.other W2 (Or.inr (slot_ne (Or.inr (hwd 25 rfl)) (Or.inr (hwd 23 rfl)) (by decide) (t := .byte) (t' := (.array .byte)) (by decide) (by decide))))
 obtain ⟨T5, h5, X5, e5, W5, st5⟩ := putFN X2 hx hZ hown (hwd 24 rfl) Via.refl e2 F4 F3 (Or.inr ⟨(hwd 25 rfl), rfl, hnm⟩) (hwd 10 rfl) (ty := .byte) (v' := (.int (nar .byte (0 : Int32)))) (by decide) rfl (fits_nar_byte _) (g := (mkF m 11 #[vR a0, vR a1, vI 0] [(.int 0), (.ref a0)])) rfl rfl (y 7 rfl)
 have Fw5 : Fld Z h5 a0 cST "coder" "B" (.int (nar .byte (0 : Int32))) := F4.same W5
 have K5 : Keep h0 h5 [a0] := K2.wr W5 (Or.inl (List.mem_of_getElem? (i := 0) rfl))
 have Z5 := ql Z2 (Keep.of_wr W5).1
 have N5 := Fr.snoc X5 N2 g_a0
 refine qb st5 ?_
 show qG p e below _ (T5.setTop (mkF m 14 #[vR a0, vR a1, vI 0] []))
 have F6 := (F3.wr W5)
 have F7 := (Fw2.other W5 (Or.inr (slot_ne (Or.inr (hwd 23 rfl)) (Or.inr (hwd 25 rfl)) (by decide) (t := (.array .byte)) (t' := .byte) (by decide) (by decide))))
 have F8 := ((P_F_a0_hash.other W2 (Or.inr (slot_ne (Or.inl (hwd 326 rfl)) (Or.inr (hwd 23 rfl)) (by decide) (t := .int) (t' := (.array .byte)) (by decide) (by decide)))).other W5 (Or.inr (slot_ne (Or.inl (hwd 326 rfl)) (Or.inr (hwd 25 rfl)) (by decide) (t := .int) (t' := .byte) (by decide) (by decide))))
 have F9 := ((P_F_a0_hashIsZero.other W2 (Or.inr (slot_ne (Or.inl (hwd 328 rfl)) (Or.inr (hwd 23 rfl)) (by decide) (t := .boolean) (t' := (.array .byte)) (by decide) (by decide)))).other W5 (Or.inr (slot_ne (Or.inl (hwd 328 rfl)) (Or.inr (hwd 25 rfl)) (by decide) (t := .boolean) (t' := .byte) (by decide) (by decide))))
 exact own_ret0 X5 hx hrt (y 8 rfl) hlk e5 ⟨rfl, N5, K5, F6, F7, Fw5, F8, F9⟩ (by decide) (by decide)
theorem pd_5 : parseMethodDescriptor "(C)Z" = some ⟨[.char], some .boolean⟩ := by decide +kernel
theorem pd_11 : parseMethodDescriptor "(C)[B" = some ⟨[.char], some (.array .byte)⟩ := by decide +kernel
theorem pd_15 : parseMethodDescriptor "([BB)V" = some ⟨[(.array .byte), .byte], none⟩ := by decide +kernel
theorem d1 : own_ds jdk_42_method_139_code [(0, .getstatic 38, 3), (3, .ifCond .eq 23, 3), (6, .iload_n 0, 1), (7, .invokestatic 1015, 3), (10, .ifCond .eq 16, 3), (13, .new 10, 3), (16, .dup, 1), (17, .iload_n 0, 1), (18, .invokestatic 1018, 3), (21, .iconst 0, 1), (22, .invokespecial 209, 3), (25, .areturn, 1)] = true := by decide +kernel
theorem ef_voL (m : MethodId) (p0 : Int32) : entryFrame m #[(.int p0)] 1 = mkF m 0 #[vI p0] [] := rfl
def QvoL (Z : State) (f_CS p0 : Int32) (h0 : Heap) (n0 : Nat) (v : Option Value) (h : Heap) (L : List Loc) : Prop := ∃ (b3 b5 : Addr) (b6 : ClassId), v = some (.ref b3) ∧ Fr n0 L ∧ Keep h0 h [] ∧ (n0 ≤ b3) ∧ (h0.size ≤ b3) ∧ Exa Z h b3 "java/lang/String" ∧ Fld Z h b3 cST "value" "[B" (.ref b5) ∧ Fld Z h b3 cST "coder" "B" (.int 0) ∧ Fld Z h b3 cST "hash" "I" (.int 0) ∧ Fld Z h b3 cST "hashIsZero" "Z" (.int 0) ∧ (n0 ≤ b5) ∧ (h0.size ≤ b5) ∧ Exa Z h b5 "[B" ∧ qA Z h b5 b6 .byte (1 : Int32) (fun i => .int ((qu (fun _ => (0 : Int32)) 0 (nar .byte (p0.toInt8.toInt32))) i)) ∧ (b3 ≠ b5)
theorem rmvoL (l : Launch) (Z : State) (A0 : Array Value) (hw : ∀ d ∈ tables_1, d.before A0 Z = true) (ws : List Jvm.Cond) (f_CS p0 : Int32) (h0 : Heap) (n0 : Nat) (Z0 : n0 ≤ h0.size) (P_S_CS : Sta Z h0 cST "COMPACT_STRINGS" "Z" (.int f_CS)) (hn_CS : ¬ (f_CS = (0 : Int32))) (hp_1 : ¬ ((255 : Int32) < p0)) :
  qM l Z (⟨"java/lang/String", "valueOf", "(C)Ljava/lang/String;"⟩ : MethodName) jdk_42_method_139_code 1 (some (.object "java/lang/String")) ws ({ frames := 2, cells := 2, slots := 5, locals := 27 } : Room) #[(.int p0)] h0 (QvoL Z f_CS p0 h0 n0) 2 5 := qe d1 (plainFor_of_name pn_sbbL) (fun m => ef_voL m p0) fun p e s m below meth c s₁ hx y hml hlk hown hnm X0 e0 hZ hrt => by
 have hwd := qw hw
 have N0 := Fr.nil n0
 show qG p e below _ (s₁.setTop (mkF m 0 #[vI p0] []))
 obtain ⟨T1, X1, e1, st1⟩ := getS2 X0 hx hZ hown (host := "") (Or.inl (hwd 4 rfl)) Via.refl e0 P_S_CS (g := (mkF m 0 #[vI p0] [])) rfl (y 0 rfl)
 refine qb st1 ?_
 refine qb (fun _ k => XS.ifNo X1.here hx rfl (y 1 rfl) rfl ((if0 _ _).trans (feq hn_CS).1) k) ?_
 show qG p e below _ (T1.setTop (mkF m 6 #[vI p0] []))
 refine qb (fun _ k => XS.iloadN X1.here hx rfl (y 2 rfl) rfl k) ?_
 obtain ⟨_, T2, Lc2, X2, hQ2, st2⟩ := own_cS X1 hx hZ hown hml (rmcanL l Z A0 hw [] p0 h0 n0 Z0 hp_1) (hwd 5 rfl) (hwd 6 rfl) (hwd 7 rfl) (hwd 8 rfl) (by decide) pd_5 e1 (g := (mkF m 7 #[vI p0] [(.int p0)])) (rest := []) rfl rfl rfl rfl (y 3 rfl) rfl
 obtain ⟨rfl, Nq2, eq2⟩ := hQ2
 have N2 := Fr.app N0 Nq2
 refine qb st2 ?_
 show qG p e below _ (T2.setTop (mkF m 10 #[vI p0] [(.int 1)]))
 refine qb (fun _ k => XS.ifNo X2.here hx rfl (y 4 rfl) rfl ((if0 _ _).trans (feq (by decide : ¬ ((1 : Int32) = (0 : Int32)))).1) k) ?_
 show qG p e below _ (T2.setTop (mkF m 13 #[vI p0] []))
 obtain ⟨T3, h3, X3, e3, E3, A3, D3, -, st3⟩ := newO X2 hx hZ hown (hwd 9 rfl) (hwd 10 rfl) (hwd 2 rfl) eq2 (g := (mkF m 13 #[vI p0] [])) rfl (y 5 rfl) (by decide) (by decide)
 obtain ⟨b3, g3⟩ : ∃ z, z = h0.size := ⟨_, rfl⟩
 have ge_b3 : n0 ≤ b3 := ql Z0 (Nat.le_of_eq g3.symm)
 have sz_b3 := ql (Keep.refl h0 []).1 (Nat.le_of_eq g3.symm)
 have K3 : Keep h0 h3 [] := (Keep.refl h0 []).ext E3
 have Z3 := ql Z0 E3.1
 rw [← g3] at A3 D3 st3
 have F_value_b3 : Fld Z h3 b3 cST "value" "[B" .null := D3 (Or.inr (hwd 23 rfl)) (ty := (.array .byte)) (by decide)
 have F_coder_b3 : Fld Z h3 b3 cST "coder" "B" (.int 0) := D3 (Or.inr (hwd 25 rfl)) (ty := .byte) (by decide)
 have F_hash_b3 : Fld Z h3 b3 cST "hash" "I" (.int 0) := D3 (Or.inl (hwd 326 rfl)) (ty := .int) (by decide)
 have F_hashIsZero_b3 : Fld Z h3 b3 cST "hashIsZero" "Z" (.int 0) := D3 (Or.inl (hwd 328 rfl)) (ty := .boolean) (by decide)
 refine qb st3 ?_
 show qG p e below _ (T3.setTop (mkF m 16 #[vI p0] [(.ref b3)]))
 refine qb (fun _ k => XS.dup X3.here hx rfl (y 6 rfl) rfl rfl k) ?_
 refine qb (fun _ k => XS.iloadN X3.here hx rfl (y 7 rfl) rfl k) ?_
 obtain ⟨_, T4, Lc4, X4, hQ4, st4⟩ := own_cS X3 hx hZ hown hml (rml1tb l Z A0 hw [] p0 h3 n0 Z3 ) (hwd 11 rfl) (hwd 12 rfl) (hwd 7 rfl) (hwd 13 rfl) (by decide) pd_11 e3 (g := (mkF m 18 #[vI p0] [(.int p0), (.ref b3), (.ref b3)])) (rest := [(.ref b3), (.ref b3)]) rfl rfl rfl rfl (y 8 rfl) rfl
 obtain ⟨b5, b6, rfl, Nq4, Kq4, hp7, hp8, F9, F10⟩ := hQ4
 have N4 := Fr.app N2 Nq4
 have K4 : Keep h0 T4.heap [] := K3.trans Kq4 (all0)
 have Z4 := ql Z3 Kq4.1
 have sz_b5 := ql K3.1 hp8
 refine qb st4 ?_
 show qG p e below _ (T4.setTop (mkF m 21 #[vI p0] [(.ref b5), (.ref b3), (.ref b3)]))
 refine qb (fun _ k => XS.iconst X4.here hx rfl (y 9 rfl) k) ?_
 have F11 := (A3.keep Kq4)
 have F12 := (F_value_b3.keep Kq4 nin0)
 have F13 := (F_coder_b3.keep Kq4 nin0)
 have F14 := (F_hash_b3.keep Kq4 nin0)
 have F15 := (F_hashIsZero_b3.keep Kq4 nin0)
 obtain ⟨_, T16, Lc16, X16, hQ16, st16⟩ := own_cI X4 hx hZ hown hml (rmsbbL l Z A0 hw [] b3 b5 (.null) (0 : Int32) (0 : Int32) (0 : Int32) T4.heap n0 Z4 F11 F12 ge_b3 F13 F14 F15) (hwd 15 rfl) (hwd 16 rfl) (hwd 2 rfl) (hwd 18 rfl) (by decide) pd_15 rfl rfl (g := (mkF m 22 #[vI p0] [(.int 0), (.ref b5), (.ref b3), (.ref b3)])) (rest := [(.ref b3)]) rfl rfl rfl rfl (y 10 rfl) rfl
 obtain ⟨rfl, Nq16, Kq16, F17, F18, F19, F20, F21⟩ := hQ16
 have N16 := Fr.app N4 Nq16
 have K16 : Keep h0 T16.heap [] := K4.trans Kq16 ((allS (Or.inr sz_b3) all0))
 have Z16 := ql Z4 Kq16.1
 refine qb st16 ?_
 show qG p e below _ (T16.setTop (mkF m 25 #[vI p0] [(.ref b3)]))
 have F22 := (F9.keep Kq16)
 have nq23 := ne_exa F22 F17 (by decide)
 have F24 := (F10.keep Kq16 (ninS nq23 nin0))
 exact own_retR X16 hx hrt (by decide) rfl (y 11 rfl) hlk rfl ⟨_, _, _, rfl, N16, K16, ge_b3, sz_b3, F17, F18, F19, F20, F21, hp7, sz_b5, F22, F24, (Ne.symm nq23)⟩ (by decide) (by decide)
theorem d7 : own_ds jdk_30_method_1_code [(0, .aload_n 0, 1), (1, .invokespecial 1, 3), (4, .return_, 1)] = true := by decide +kernel
theorem pn_iRecord : plainName "java/lang/Record" = true := by first | (simp [plainName, overriddenIn]; done) | decide +kernel
theorem ef_iRecord (m : MethodId) (a0 : Addr) : entryFrame m #[(.ref a0)] 1 = mkF m 0 #[vR a0] [] := rfl
def QiRecord (Z : State) (a0 : Addr) (h0 : Heap) (n0 : Nat) (v : Option Value) (h : Heap) (L : List Loc) : Prop := v = none ∧ Fr n0 L ∧ h = h0
theorem rmiRecord (l : Launch) (Z : State) (A0 : Array Value) (hw : ∀ d ∈ tables_1, d.before A0 Z = true) (ws : List Jvm.Cond) (a0 : Addr) (h0 : Heap) (n0 : Nat) (Z0 : n0 ≤ h0.size) :
  qM l Z (⟨"java/lang/Record", "<init>", "()V"⟩ : MethodName) jdk_30_method_1_code 1 none ws ({ frames := 1, cells := 0, slots := 0, locals := 12 } : Room) #[(.ref a0)] h0 (QiRecord Z a0 h0 n0) 0 0 := qe d7 (plainFor_of_name pn_iRecord) (fun m => ef_iRecord m a0) fun p e s m below meth c s₁ hx y hml hlk hown hnm X0 e0 hZ hrt => by
 have hwd := qw hw
 have N0 := Fr.nil n0
 show qG p e below _ (s₁.setTop (mkF m 0 #[vR a0] []))
 refine qb (fun _ k => XS.aloadN X0.here hx rfl (y 0 rfl) rfl rfl k) ?_
 obtain ⟨T1, X1, e1, st1⟩ := initO X0 hx hZ hown (hwd 37 rfl) (hwd 20 rfl) (hwd 21 rfl) e0 (g := (mkF m 1 #[vR a0] [(.ref a0)])) rfl (by rw [hml]; rfl) rfl (y 1 rfl) (by decide) (W := 0) (by show 2 * 0 + _ ≤ _; exact Nat.le_of_eq rfl) (by decide)
 refine qb st1 ?_
 show qG p e below _ (T1.setTop (mkF m 4 #[vR a0] []))
 exact own_ret0 X1 hx hrt (y 2 rfl) hlk e1 ⟨rfl, N0, rfl⟩ (by decide) (by decide)
theorem d10 : own_ds jdk_22_method_1_code [(0, .aload_n 0, 1), (1, .invokespecial 1, 3), (4, .return_, 1)] = true := by decide +kernel
theorem pn_iAbstractCollection : plainName "java/util/AbstractCollection" = true := by first | (simp [plainName, overriddenIn]; done) | decide +kernel
theorem ef_iAbstractCollection (m : MethodId) (a0 : Addr) : entryFrame m #[(.ref a0)] 1 = mkF m 0 #[vR a0] [] := rfl
def QiAbstractCollection (Z : State) (a0 : Addr) (h0 : Heap) (n0 : Nat) (v : Option Value) (h : Heap) (L : List Loc) : Prop := v = none ∧ Fr n0 L ∧ h = h0
theorem rmiAbstractCollection (l : Launch) (Z : State) (A0 : Array Value) (hw : ∀ d ∈ tables_1, d.before A0 Z = true) (ws : List Jvm.Cond) (a0 : Addr) (h0 : Heap) (n0 : Nat) (Z0 : n0 ≤ h0.size) :
  qM l Z (⟨"java/util/AbstractCollection", "<init>", "()V"⟩ : MethodName) jdk_22_method_1_code 1 none ws ({ frames := 1, cells := 0, slots := 0, locals := 12 } : Room) #[(.ref a0)] h0 (QiAbstractCollection Z a0 h0 n0) 0 0 := qe d10 (plainFor_of_name pn_iAbstractCollection) (fun m => ef_iAbstractCollection m a0) fun p e s m below meth c s₁ hx y hml hlk hown hnm X0 e0 hZ hrt => by
 have hwd := qw hw
 have N0 := Fr.nil n0
 show qG p e below _ (s₁.setTop (mkF m 0 #[vR a0] []))
 refine qb (fun _ k => XS.aloadN X0.here hx rfl (y 0 rfl) rfl rfl k) ?_
 obtain ⟨T1, X1, e1, st1⟩ := initO X0 hx hZ hown (hwd 60 rfl) (hwd 20 rfl) (hwd 21 rfl) e0 (g := (mkF m 1 #[vR a0] [(.ref a0)])) rfl (by rw [hml]; rfl) rfl (y 1 rfl) (by decide) (W := 0) (by show 2 * 0 + _ ≤ _; exact Nat.le_of_eq rfl) (by decide)
 refine qb st1 ?_
 show qG p e below _ (T1.setTop (mkF m 4 #[vR a0] []))
 exact own_ret0 X1 hx hrt (y 2 rfl) hlk e1 ⟨rfl, N0, rfl⟩ (by decide) (by decide)
theorem d12 : own_ds jdk_71_method_1_code [(0, .aload_n 0, 1), (1, .invokespecial 1, 3), (4, .return_, 1)] = true := by decide +kernel
theorem pn_iAbstractMap : plainName "java/util/AbstractMap" = true := by first | (simp [plainName, overriddenIn]; done) | decide +kernel
theorem ef_iAbstractMap (m : MethodId) (a0 : Addr) : entryFrame m #[(.ref a0)] 1 = mkF m 0 #[vR a0] [] := rfl
def QiAbstractMap (Z : State) (a0 : Addr) (h0 : Heap) (n0 : Nat) (v : Option Value) (h : Heap) (L : List Loc) : Prop := v = none ∧ Fr n0 L ∧ h = h0
theorem rmiAbstractMap (l : Launch) (Z : State) (A0 : Array Value) (hw : ∀ d ∈ tables_1, d.before A0 Z = true) (ws : List Jvm.Cond) (a0 : Addr) (h0 : Heap) (n0 : Nat) (Z0 : n0 ≤ h0.size) :
  qM l Z (⟨"java/util/AbstractMap", "<init>", "()V"⟩ : MethodName) jdk_71_method_1_code 1 none ws ({ frames := 1, cells := 0, slots := 0, locals := 12 } : Room) #[(.ref a0)] h0 (QiAbstractMap Z a0 h0 n0) 0 0 := qe d12 (plainFor_of_name pn_iAbstractMap) (fun m => ef_iAbstractMap m a0) fun p e s m below meth c s₁ hx y hml hlk hown hnm X0 e0 hZ hrt => by
 have hwd := qw hw
 have N0 := Fr.nil n0
 show qG p e below _ (s₁.setTop (mkF m 0 #[vR a0] []))
 refine qb (fun _ k => XS.aloadN X0.here hx rfl (y 0 rfl) rfl rfl k) ?_
 obtain ⟨T1, X1, e1, st1⟩ := initO X0 hx hZ hown (hwd 78 rfl) (hwd 20 rfl) (hwd 21 rfl) e0 (g := (mkF m 1 #[vR a0] [(.ref a0)])) rfl (by rw [hml]; rfl) rfl (y 1 rfl) (by decide) (W := 0) (by show 2 * 0 + _ ≤ _; exact Nat.le_of_eq rfl) (by decide)
 refine qb st1 ?_
 show qG p e below _ (T1.setTop (mkF m 4 #[vR a0] []))
 exact own_ret0 X1 hx hrt (y 2 rfl) hlk e1 ⟨rfl, N0, rfl⟩ (by decide) (by decide)
theorem d57 : own_ds jdk_18_method_1_code [(0, .aload_n 0, 1), (1, .invokespecial 1, 3), (4, .return_, 1)] = true := by decide +kernel
theorem pn_iNumber : plainName "java/lang/Number" = true := by first | (simp [plainName, overriddenIn]; done) | decide +kernel
theorem ef_iNumber (m : MethodId) (a0 : Addr) : entryFrame m #[(.ref a0)] 1 = mkF m 0 #[vR a0] [] := rfl
def QiNumber (Z : State) (a0 : Addr) (h0 : Heap) (n0 : Nat) (v : Option Value) (h : Heap) (L : List Loc) : Prop := v = none ∧ Fr n0 L ∧ h = h0
theorem rmiNumber (l : Launch) (Z : State) (A0 : Array Value) (hw : ∀ d ∈ tables_1, d.before A0 Z = true) (ws : List Jvm.Cond) (a0 : Addr) (h0 : Heap) (n0 : Nat) (Z0 : n0 ≤ h0.size) :
  qM l Z (⟨"java/lang/Number", "<init>", "()V"⟩ : MethodName) jdk_18_method_1_code 1 none ws ({ frames := 1, cells := 0, slots := 0, locals := 12 } : Room) #[(.ref a0)] h0 (QiNumber Z a0 h0 n0) 0 0 := qe d57 (plainFor_of_name pn_iNumber) (fun m => ef_iNumber m a0) fun p e s m below meth c s₁ hx y hml hlk hown hnm X0 e0 hZ hrt => by
 have hwd := qw hw
 have N0 := Fr.nil n0
 show qG p e below _ (s₁.setTop (mkF m 0 #[vR a0] []))
 refine qb (fun _ k => XS.aloadN X0.here hx rfl (y 0 rfl) rfl rfl k) ?_
 obtain ⟨T1, X1, e1, st1⟩ := initO X0 hx hZ hown (hwd 405 rfl) (hwd 20 rfl) (hwd 21 rfl) e0 (g := (mkF m 1 #[vR a0] [(.ref a0)])) rfl (by rw [hml]; rfl) rfl (y 1 rfl) (by decide) (W := 0) (by show 2 * 0 + _ ≤ _; exact Nat.le_of_eq rfl) (by decide)
 refine qb st1 ?_
 show qG p e below _ (T1.setTop (mkF m 4 #[vR a0] []))
 exact own_ret0 X1 hx hrt (y 2 rfl) hlk e1 ⟨rfl, N0, rfl⟩ (by decide) (by decide)
theorem pd_19 : parseMethodDescriptor "()V" = some ⟨[], none⟩ := by decide +kernel
theorem d6 : own_ds prog_20_method_1_code [(0, .aload_n 0, 1), (1, .invokespecial 1, 3), (4, .aload_n 0, 1), (5, .aload_n 1, 1), (6, .putfield 7, 3), (9, .aload_n 0, 1), (10, .dload_n 2, 1), (11, .putfield 13, 3), (14, .return_, 1)] = true := by decide +kernel
theorem pn_iHit : plainName "com/example/libacross/libacross/format/Hit" = true := by first | (simp [plainName, overriddenIn]; done) | decide +kernel
theorem ef_iHit (m : MethodId) (a0 a1 : Addr) (d2 : UInt64) : entryFrame m #[(.ref a0), (.ref a1), (.double d2)] 4 = mkF m 0 #[vR a0, vR a1, vD d2, .second] [] := rfl
def QiHit (Z : State) (a0 a1 : Addr) (d2 : UInt64) (f_a0_documentId : Value) (f_a0_score : UInt64) (h0 : Heap) (n0 : Nat) (v : Option Value) (h : Heap) (L : List Loc) : Prop := v = none ∧ Fr n0 L ∧ Keep h0 h [a0] ∧ Exa Z h a0 "com/example/libacross/libacross/format/Hit" ∧ Fld Z h a0 cHT "documentId" "Ljava/lang/String;" (.ref a1) ∧ Fld Z h a0 cHT "score" "D" (.double d2)
theorem rmiHit (l : Launch) (Z : State) (A0 : Array Value) (hw : ∀ d ∈ tables_1, d.before A0 Z = true) (ws : List Jvm.Cond) (a0 a1 : Addr) (d2 : UInt64) (f_a0_documentId : Value) (f_a0_score : UInt64) (h0 : Heap) (n0 : Nat) (Z0 : n0 ≤ h0.size) (P_E_a0 : Exa Z h0 a0 "com/example/libacross/libacross/format/Hit") (P_F_a0_documentId : Fld Z h0 a0 cHT "documentId" "Ljava/lang/String;" f_a0_documentId) (g_a0 : n0 ≤ a0) (P_F_a0_score : Fld Z h0 a0 cHT "score" "D" (.double f_a0_score)) :
  qM l Z (⟨"com/example/libacross/libacross/format/Hit", "<init>", "(Ljava/lang/String;D)V"⟩ : MethodName) prog_20_method_1_code 4 none ws ({ frames := 2, cells := 0, slots := 0, locals := 24 } : Room) #[(.ref a0), (.ref a1), (.double d2)] h0 (QiHit Z a0 a1 d2 f_a0_documentId f_a0_score h0 n0) 0 0 := qe d6 (plainFor_of_name pn_iHit) (fun m => ef_iHit m a0 a1 d2) fun p e s m below meth c s₁ hx y hml hlk hown hnm X0 e0 hZ hrt => by
 have hwd := qw hw
 have N0 := Fr.nil n0
 show qG p e below _ (s₁.setTop (mkF m 0 #[vR a0, vR a1, vD d2, .second] []))
 refine qb (fun _ k => XS.aloadN X0.here hx rfl (y 0 rfl) rfl rfl k) ?_
 obtain ⟨_, T1, Lc1, X1, hQ1, st1⟩ := own_cI X0 hx hZ hown hml (rmiRecord l Z A0 hw [] a0 h0 n0 Z0 ) (hwd 32 rfl) (hwd 33 rfl) (hwd 35 rfl) (hwd 36 rfl) (by decide) pd_19 e0 rfl (g := (mkF m 1 #[vR a0, vR a1, vD d2, .second] [(.ref a0)])) (rest := []) rfl rfl rfl rfl (y 1 rfl) rfl
 obtain ⟨rfl, Nq1, eq1⟩ := hQ1
 have N1 := Fr.app N0 Nq1
 refine qb st1 ?_
 show qG p e below _ (T1.setTop (mkF m 4 #[vR a0, vR a1, vD d2, .second] []))
 refine qb (fun _ k => XS.aloadN X1.here hx rfl (y 2 rfl) rfl rfl k) ?_
 refine qb (fun _ k => XS.aloadN X1.here hx rfl (y 3 rfl) rfl rfl k) ?_
 obtain ⟨T2, h2, X2, e2, W2, st2⟩ := putF X1 hx hZ hown (host := "") (Or.inl (hwd 38 rfl)) Via.refl eq1 P_F_a0_documentId P_E_a0 (Or.inr ⟨(hwd 39 rfl), rfl, hnm⟩) (hwd 27 rfl) (ty := (.object "java/lang/String")) (by decide) rfl rfl (g := (mkF m 6 #[vR a0, vR a1, vD d2, .second] [(.ref a1), (.ref a0)])) rfl rfl (y 4 rfl)
 have Fw2 : Fld Z h2 a0 cHT "documentId" "Ljava/lang/String;" (.ref a1) := P_F_a0_documentId.same W2
 have K2 : Keep h0 h2 [a0] := (Keep.refl h0 [a0]).wr W2 (Or.inl (List.mem_of_getElem? (i := 0) rfl))
 have Z2 := ql Z0 (Keep.of_wr W2).1
 have N2 := Fr.snoc X2 N1 g_a0
 refine qb st2 ?_
 show qG p e below _ (T2.setTop (mkF m 9 #[vR a0, vR a1, vD d2, .second] []))
 refine qb (fun _ k => XS.aloadN X2.here hx rfl (y 5 rfl) rfl rfl k) ?_
 refine qb (fun _ k => XS.dloadN X2.here hx rfl (y 6 rfl) rfl k) ?_
 show qG p e below _ (T2.setTop (mkF m 11 #[vR a0, vR a1, vD d2, .second] [(.double d2), (.ref a0)]))
 have F3 := (P_E_a0.wr W2)
 have F4 := (P_F_a0_score.other W2 (Or.inr (slot_ne (Or.inr (hwd 41 rfl)) (Or.inr (hwd 39 rfl)) (by decide) (t := .double) (t' := (.object "java/lang/String")) (by decide) (by decide))))
 obtain ⟨T5, h5, X5, e5, W5, st5⟩ := putF X2 hx hZ hown (host := "") (Or.inl (hwd 40 rfl)) Via.refl e2 F4 F3 (Or.inr ⟨(hwd 41 rfl), rfl, hnm⟩) (hwd 27 rfl) (ty := .double) (by decide) rfl rfl (g := (mkF m 11 #[vR a0, vR a1, vD d2, .second] [(.double d2), (.ref a0)])) rfl rfl (y 7 rfl)
 have Fw5 : Fld Z h5 a0 cHT "score" "D" (.double d2) := F4.same W5
 have K5 : Keep h0 h5 [a0] := K2.wr W5 (Or.inl (List.mem_of_getElem? (i := 0) rfl))
 have Z5 := ql Z2 (Keep.of_wr W5).1
 have N5 := Fr.snoc X5 N2 g_a0
 refine qb st5 ?_
 show qG p e below _ (T5.setTop (mkF m 14 #[vR a0, vR a1, vD d2, .second] []))
 have F6 := (F3.wr W5)
 have F7 := (Fw2.other W5 (Or.inr (slot_ne (Or.inr (hwd 39 rfl)) (Or.inr (hwd 41 rfl)) (by decide) (t := (.object "java/lang/String")) (t' := .double) (by decide) (by decide))))
 exact own_ret0 X5 hx hrt (y 8 rfl) hlk e5 ⟨rfl, N5, K5, F6, F7, Fw5⟩ (by decide) (by decide)
theorem d9 : own_ds jdk_39_method_1_code [(0, .aload_n 0, 1), (1, .invokespecial 1, 3), (4, .aload_n 0, 1), (5, .iconst 0, 1), (6, .putfield 7, 3), (9, .return_, 1)] = true := by decide +kernel
theorem pn_iAL : plainName "java/util/AbstractList" = true := by first | (simp [plainName, overriddenIn]; done) | decide +kernel
theorem ef_iAL (m : MethodId) (a0 : Addr) : entryFrame m #[(.ref a0)] 1 = mkF m 0 #[vR a0] [] := rfl
def QiAL (Z : State) (a0 : Addr) (f_a0_modCount : Int32) (f_a0_elementData : Value) (f_a0_size : Int32) (h0 : Heap) (n0 : Nat) (v : Option Value) (h : Heap) (L : List Loc) : Prop := v = none ∧ Fr n0 L ∧ Keep h0 h [a0] ∧ Exa Z h a0 "java/util/ArrayList" ∧ Fld Z h a0 "java/util/AbstractList" "modCount" "I" (.int 0) ∧ Fld Z h a0 cAL "elementData" "[Ljava/lang/Object;" f_a0_elementData ∧ Fld Z h a0 cAL "size" "I" (.int f_a0_size)
theorem rmiAL (l : Launch) (Z : State) (A0 : Array Value) (hw : ∀ d ∈ tables_1, d.before A0 Z = true) (ws : List Jvm.Cond) (a0 : Addr) (f_a0_modCount : Int32) (f_a0_elementData : Value) (f_a0_size : Int32) (h0 : Heap) (n0 : Nat) (Z0 : n0 ≤ h0.size) (P_E_a0 : Exa Z h0 a0 "java/util/ArrayList") (P_F_a0_modCount : Fld Z h0 a0 "java/util/AbstractList" "modCount" "I" (.int f_a0_modCount)) (g_a0 : n0 ≤ a0) (P_F_a0_elementData : Fld Z h0 a0 cAL "elementData" "[Ljava/lang/Object;" f_a0_elementData) (P_F_a0_size : Fld Z h0 a0 cAL "size" "I" (.int f_a0_size)) :
  qM l Z (⟨"java/util/AbstractList", "<init>", "()V"⟩ : MethodName) jdk_39_method_1_code 1 none ws ({ frames := 2, cells := 0, slots := 0, locals := 24 } : Room) #[(.ref a0)] h0 (QiAL Z a0 f_a0_modCount f_a0_elementData f_a0_size h0 n0) 0 0 := qe d9 (plainFor_of_name pn_iAL) (fun m => ef_iAL m a0) fun p e s m below meth c s₁ hx y hml hlk hown hnm X0 e0 hZ hrt => by
 have hwd := qw hw
 have N0 := Fr.nil n0
 show qG p e below _ (s₁.setTop (mkF m 0 #[vR a0] []))
 refine qb (fun _ k => XS.aloadN X0.here hx rfl (y 0 rfl) rfl rfl k) ?_
 obtain ⟨_, T1, Lc1, X1, hQ1, st1⟩ := own_cI X0 hx hZ hown hml (rmiAbstractCollection l Z A0 hw [] a0 h0 n0 Z0 ) (hwd 54 rfl) (hwd 55 rfl) (hwd 58 rfl) (hwd 59 rfl) (by decide) pd_19 e0 rfl (g := (mkF m 1 #[vR a0] [(.ref a0)])) (rest := []) rfl rfl rfl rfl (y 1 rfl) rfl
 obtain ⟨rfl, Nq1, eq1⟩ := hQ1
 have N1 := Fr.app N0 Nq1
 refine qb st1 ?_
 show qG p e below _ (T1.setTop (mkF m 4 #[vR a0] []))
 refine qb (fun _ k => XS.aloadN X1.here hx rfl (y 2 rfl) rfl rfl k) ?_
 refine qb (fun _ k => XS.iconst X1.here hx rfl (y 3 rfl) k) ?_
 obtain ⟨T2, h2, X2, e2, W2, st2⟩ := putF X1 hx hZ hown (host := "") (Or.inl (hwd 61 rfl)) Via.refl eq1 P_F_a0_modCount P_E_a0 (Or.inl (hwd 62 rfl)) (hwd 43 rfl) (ty := .int) (by decide) rfl rfl (g := (mkF m 6 #[vR a0] [(.int 0), (.ref a0)])) rfl rfl (y 4 rfl)
 have Fw2 : Fld Z h2 a0 "java/util/AbstractList" "modCount" "I" (.int 0) := P_F_a0_modCount.same W2
 have K2 : Keep h0 h2 [a0] := (Keep.refl h0 [a0]).wr W2 (Or.inl (List.mem_of_getElem? (i := 0) rfl))
 have Z2 := ql Z0 (Keep.of_wr W2).1
 have N2 := Fr.snoc X2 N1 g_a0
 refine qb st2 ?_
 show qG p e below _ (T2.setTop (mkF m 9 #[vR a0] []))
 have F3 := (P_E_a0.wr W2)
 have F4 := (P_F_a0_elementData.other W2 (Or.inr (slot_ne (Or.inl (hwd 65 rfl)) (Or.inl (hwd 62 rfl)) (by decide) (t := (.array (.object "java/lang/Object"))) (t' := .int) (by decide) (by decide))))
 have F5 := (P_F_a0_size.other W2 (Or.inr (slot_ne (Or.inl (hwd 103 rfl)) (Or.inl (hwd 62 rfl)) (by decide) (t := .int) (t' := .int) (by decide) (by decide))))
 exact own_ret0 X2 hx hrt (y 5 rfl) hlk e2 ⟨rfl, N2, K2, F3, Fw2, F4, F5⟩ (by decide) (by decide)
theorem d8 : own_ds jdk_38_method_2_code [(0, .aload_n 0, 1), (1, .invokespecial 1, 3), (4, .aload_n 0, 1), (5, .getstatic 39, 3), (8, .putfield 9, 3), (11, .return_, 1)] = true := by decide +kernel
theorem pn_iArr : plainName "java/util/ArrayList" = true := by first | (simp [plainName, overriddenIn]; done) | decide +kernel
theorem ef_iArr (m : MethodId) (a0 : Addr) : entryFrame m #[(.ref a0)] 1 = mkF m 0 #[vR a0] [] := rfl
def QiArr (Z : State) (f_DE a0 : Addr) (f_a0_modCount : Int32) (f_a0_elementData : Value) (f_a0_size : Int32) (h0 : Heap) (n0 : Nat) (v : Option Value) (h : Heap) (L : List Loc) : Prop := v = none ∧ Fr n0 L ∧ Keep h0 h [a0] ∧ Exa Z h a0 "java/util/ArrayList" ∧ Fld Z h a0 "java/util/AbstractList" "modCount" "I" (.int 0) ∧ Fld Z h a0 cAL "elementData" "[Ljava/lang/Object;" (.ref f_DE) ∧ Fld Z h a0 cAL "size" "I" (.int f_a0_size)
theorem rmiArr (l : Launch) (Z : State) (A0 : Array Value) (hw : ∀ d ∈ tables_1, d.before A0 Z = true) (ws : List Jvm.Cond) (f_DE a0 : Addr) (f_a0_modCount : Int32) (f_a0_elementData : Value) (f_a0_size : Int32) (h0 : Heap) (n0 : Nat) (Z0 : n0 ≤ h0.size) (P_E_a0 : Exa Z h0 a0 "java/util/ArrayList") (P_S_DE : Sta Z h0 cAL "DEFAULTCAPACITY_EMPTY_ELEMENTDATA" "[Ljava/lang/Object;" (.ref f_DE)) (P_F_a0_modCount : Fld Z h0 a0 "java/util/AbstractList" "modCount" "I" (.int f_a0_modCount)) (P_F_a0_elementData : Fld Z h0 a0 cAL "elementData" "[Ljava/lang/Object;" f_a0_elementData) (P_F_a0_size : Fld Z h0 a0 cAL "size" "I" (.int f_a0_size)) (g_a0 : n0 ≤ a0) :
  qM l Z (⟨"java/util/ArrayList", "<init>", "()V"⟩ : MethodName) jdk_38_method_2_code 1 none ws ({ frames := 3, cells := 0, slots := 0, locals := 36 } : Room) #[(.ref a0)] h0 (QiArr Z f_DE a0 f_a0_modCount f_a0_elementData f_a0_size h0 n0) 0 0 := qe d8 (plainFor_of_name pn_iArr) (fun m => ef_iArr m a0) fun p e s m below meth c s₁ hx y hml hlk hown hnm X0 e0 hZ hrt => by
 have hwd := qw hw
 have N0 := Fr.nil n0
 show qG p e below _ (s₁.setTop (mkF m 0 #[vR a0] []))
 refine qb (fun _ k => XS.aloadN X0.here hx rfl (y 0 rfl) rfl rfl k) ?_
 obtain ⟨_, T1, Lc1, X1, hQ1, st1⟩ := own_cI X0 hx hZ hown hml (rmiAL l Z A0 hw [] a0 f_a0_modCount f_a0_elementData f_a0_size h0 n0 Z0 P_E_a0 P_F_a0_modCount g_a0 P_F_a0_elementData P_F_a0_size) (hwd 48 rfl) (hwd 49 rfl) (hwd 52 rfl) (hwd 53 rfl) (by decide) pd_19 e0 rfl (g := (mkF m 1 #[vR a0] [(.ref a0)])) (rest := []) rfl rfl rfl rfl (y 1 rfl) rfl
 obtain ⟨rfl, Nq1, Kq1, F2, F3, F4, F5⟩ := hQ1
 have N1 := Fr.app N0 Nq1
 have K1 : Keep h0 T1.heap [a0] := (Keep.refl h0 [a0]).trans Kq1 ((allS (Or.inl (List.mem_of_getElem? (i := 0) rfl)) all0))
 have Z1 := ql Z0 Kq1.1
 refine qb st1 ?_
 show qG p e below _ (T1.setTop (mkF m 4 #[vR a0] []))
 refine qb (fun _ k => XS.aloadN X1.here hx rfl (y 2 rfl) rfl rfl k) ?_
 have F6 := qk P_S_DE Kq1 (allS (qx P_E_a0) all0)
 obtain ⟨T7, X7, e7, st7⟩ := getS2 X1 hx hZ hown (host := "") (Or.inl (hwd 63 rfl)) Via.refl rfl F6 (g := (mkF m 5 #[vR a0] [(.ref a0)])) rfl (y 3 rfl)
 refine qb st7 ?_
 obtain ⟨T8, h8, X8, e8, W8, st8⟩ := putF X7 hx hZ hown (host := "") (Or.inl (hwd 64 rfl)) Via.refl e7 F4 F2 (Or.inl (hwd 65 rfl)) (hwd 43 rfl) (ty := (.array (.object "java/lang/Object"))) (by decide) rfl rfl (g := (mkF m 8 #[vR a0] [(.ref f_DE), (.ref a0)])) rfl rfl (y 4 rfl)
 have Fw8 : Fld Z h8 a0 cAL "elementData" "[Ljava/lang/Object;" (.ref f_DE) := F4.same W8
 have K8 : Keep h0 h8 [a0] := K1.wr W8 (Or.inl (List.mem_of_getElem? (i := 0) rfl))
 have Z8 := ql Z1 (Keep.of_wr W8).1
 have N8 := Fr.snoc X8 N1 g_a0
 refine qb st8 ?_
 show qG p e below _ (T8.setTop (mkF m 11 #[vR a0] []))
 have F9 := (F2.wr W8)
 have F10 := (F3.other W8 (Or.inr (slot_ne (Or.inl (hwd 62 rfl)) (Or.inl (hwd 65 rfl)) (by decide) (t := .int) (t' := (.array (.object "java/lang/Object"))) (by decide) (by decide))))
 have F11 := (F5.other W8 (Or.inr (slot_ne (Or.inl (hwd 103 rfl)) (Or.inl (hwd 65 rfl)) (by decide) (t := .int) (t' := (.array (.object "java/lang/Object"))) (by decide) (by decide))))
 exact own_ret0 X8 hx hrt (y 5 rfl) hlk e8 ⟨rfl, N8, K8, F9, F10, Fw8, F11⟩ (by decide) (by decide)
theorem d11 : own_ds jdk_69_method_7_code [(0, .aload_n 0, 1), (1, .invokespecial 43, 3), (4, .aload_n 0, 1), (5, .ldc 92, 2), (7, .putfield 81, 3), (10, .return_, 1)] = true := by decide +kernel
theorem pn_iHm : plainName "java/util/HashMap" = true := by first | (simp [plainName, overriddenIn]; done) | decide +kernel
theorem ef_iHm (m : MethodId) (a0 : Addr) : entryFrame m #[(.ref a0)] 1 = mkF m 0 #[vR a0] [] := rfl
def QiHm (Z : State) (a0 : Addr) (f_a0_loadFactor : UInt32) (f_a0_size : Int32) (f_a0_values : Value) (f_a0_modCount : Int32) (f_a0_table : Value) (f_a0_threshold : Int32) (h0 : Heap) (n0 : Nat) (v : Option Value) (h : Heap) (L : List Loc) : Prop := v = none ∧ Fr n0 L ∧ Keep h0 h [a0] ∧ Exa Z h a0 "java/util/HashMap" ∧ Fld Z h a0 cHM "loadFactor" "F" (.float (1061158912 : UInt32)) ∧ Fld Z h a0 cHM "size" "I" (.int f_a0_size) ∧ Fld Z h a0 cAM "values" "Ljava/util/Collection;" f_a0_values ∧ Fld Z h a0 cHM "modCount" "I" (.int f_a0_modCount) ∧ Fld Z h a0 cHM "table" "[Ljava/util/HashMap$Node;" f_a0_table ∧ Fld Z h a0 cHM "threshold" "I" (.int f_a0_threshold)
theorem rmiHm (l : Launch) (Z : State) (A0 : Array Value) (hw : ∀ d ∈ tables_1, d.before A0 Z = true) (ws : List Jvm.Cond) (a0 : Addr) (f_a0_loadFactor : UInt32) (f_a0_size : Int32) (f_a0_values : Value) (f_a0_modCount : Int32) (f_a0_table : Value) (f_a0_threshold : Int32) (h0 : Heap) (n0 : Nat) (Z0 : n0 ≤ h0.size) (P_E_a0 : Exa Z h0 a0 "java/util/HashMap") (P_F_a0_loadFactor : Fld Z h0 a0 cHM "loadFactor" "F" (.float f_a0_loadFactor)) (g_a0 : n0 ≤ a0) (P_F_a0_size : Fld Z h0 a0 cHM "size" "I" (.int f_a0_size)) (P_F_a0_values : Fld Z h0 a0 cAM "values" "Ljava/util/Collection;" f_a0_values) (P_F_a0_modCount : Fld Z h0 a0 cHM "modCount" "I" (.int f_a0_modCount)) (P_F_a0_table : Fld Z h0 a0 cHM "table" "[Ljava/util/HashMap$Node;" f_a0_table) (P_F_a0_threshold : Fld Z h0 a0 cHM "threshold" "I" (.int f_a0_threshold)) :
  qM l Z (⟨"java/util/HashMap", "<init>", "()V"⟩ : MethodName) jdk_69_method_7_code 1 none ws ({ frames := 2, cells := 0, slots := 0, locals := 24 } : Room) #[(.ref a0)] h0 (QiHm Z a0 f_a0_loadFactor f_a0_size f_a0_values f_a0_modCount f_a0_table f_a0_threshold h0 n0) 0 0 := qe d11 (plainFor_of_name pn_iHm) (fun m => ef_iHm m a0) fun p e s m below meth c s₁ hx y hml hlk hown hnm X0 e0 hZ hrt => by
 have hwd := qw hw
 have N0 := Fr.nil n0
 show qG p e below _ (s₁.setTop (mkF m 0 #[vR a0] []))
 refine qb (fun _ k => XS.aloadN X0.here hx rfl (y 0 rfl) rfl rfl k) ?_
 obtain ⟨_, T1, Lc1, X1, hQ1, st1⟩ := own_cI X0 hx hZ hown hml (rmiAbstractMap l Z A0 hw [] a0 h0 n0 Z0 ) (hwd 72 rfl) (hwd 73 rfl) (hwd 76 rfl) (hwd 77 rfl) (by decide) pd_19 e0 rfl (g := (mkF m 1 #[vR a0] [(.ref a0)])) (rest := []) rfl rfl rfl rfl (y 1 rfl) rfl
 obtain ⟨rfl, Nq1, eq1⟩ := hQ1
 have N1 := Fr.app N0 Nq1
 refine qb st1 ?_
 show qG p e below _ (T1.setTop (mkF m 4 #[vR a0] []))
 refine qb (fun _ k => XS.aloadN X1.here hx rfl (y 2 rfl) rfl rfl k) ?_
 refine qb (fun t k => X1.ldcFloatC hx hown (mvT hZ (hwd 79 rfl)) (g := (mkF m 5 #[vR a0] [(.ref a0)])) rfl (y 3 rfl) _ k) ?_
 obtain ⟨T2, h2, X2, e2, W2, st2⟩ := putF X1 hx hZ hown (host := "") (Or.inl (hwd 80 rfl)) Via.refl eq1 P_F_a0_loadFactor P_E_a0 (Or.inr ⟨(hwd 81 rfl), rfl, hnm⟩) (hwd 67 rfl) (ty := .float) (by decide) rfl rfl (g := (mkF m 7 #[vR a0] [(.float (1061158912 : UInt32)), (.ref a0)])) rfl rfl (y 4 rfl)
 have Fw2 : Fld Z h2 a0 cHM "loadFactor" "F" (.float (1061158912 : UInt32)) := P_F_a0_loadFactor.same W2
 have K2 : Keep h0 h2 [a0] := (Keep.refl h0 [a0]).wr W2 (Or.inl (List.mem_of_getElem? (i := 0) rfl))
 have Z2 := ql Z0 (Keep.of_wr W2).1
 have N2 := Fr.snoc X2 N1 g_a0
 refine qb st2 ?_
 show qG p e below _ (T2.setTop (mkF m 10 #[vR a0] []))
 have F3 := (P_E_a0.wr W2)
 have F4 := (P_F_a0_size.other W2 (Or.inr (slot_ne (Or.inl (hwd 117 rfl)) (Or.inr (hwd 81 rfl)) (by decide) (t := .int) (t' := .float) (by decide) (by decide))))
 have F5 := (P_F_a0_values.other W2 (Or.inr (slot_ne (Or.inl (hwd 128 rfl)) (Or.inr (hwd 81 rfl)) (by decide) (t := (.object "java/util/Collection")) (t' := .float) (by decide) (by decide))))
 have F6 := (P_F_a0_modCount.other W2 (Or.inr (slot_ne (Or.inl (hwd 166 rfl)) (Or.inr (hwd 81 rfl)) (by decide) (t := .int) (t' := .float) (by decide) (by decide))))
 have F7 := (P_F_a0_table.other W2 (Or.inr (slot_ne (Or.inl (hwd 170 rfl)) (Or.inr (hwd 81 rfl)) (by decide) (t := (.array (.object "java/util/HashMap$Node"))) (t' := .float) (by decide) (by decide))))
 have F8 := (P_F_a0_threshold.other W2 (Or.inr (slot_ne (Or.inl (hwd 348 rfl)) (Or.inr (hwd 81 rfl)) (by decide) (t := .int) (t' := .float) (by decide) (by decide))))
 exact own_ret0 X2 hx hrt (y 5 rfl) hlk e2 ⟨rfl, N2, K2, F3, Fw2, F4, F5, F6, F7, F8⟩ (by decide) (by decide)
theorem d56 : own_ds jdk_33_method_23_code [(0, .aload_n 0, 1), (1, .invokespecial 202, 3), (4, .aload_n 0, 1), (5, .iload_n 1, 1), (6, .putfield 205, 3), (9, .return_, 1)] = true := by decide +kernel
theorem pn_iInt : plainName "java/lang/Integer" = true := by first | (simp [plainName, overriddenIn]; done) | decide +kernel
theorem ef_iInt (m : MethodId) (a0 : Addr) (p1 : Int32) : entryFrame m #[(.ref a0), (.int p1)] 2 = mkF m 0 #[vR a0, vI p1] [] := rfl
def QiInt (Z : State) (a0 : Addr) (p1 f_a0_value : Int32) (h0 : Heap) (n0 : Nat) (v : Option Value) (h : Heap) (L : List Loc) : Prop := v = none ∧ Fr n0 L ∧ Keep h0 h [a0] ∧ Exa Z h a0 "java/lang/Integer" ∧ Fld Z h a0 cIN "value" "I" (.int p1)
theorem rmiInt (l : Launch) (Z : State) (A0 : Array Value) (hw : ∀ d ∈ tables_1, d.before A0 Z = true) (ws : List Jvm.Cond) (a0 : Addr) (p1 f_a0_value : Int32) (h0 : Heap) (n0 : Nat) (Z0 : n0 ≤ h0.size) (P_E_a0 : Exa Z h0 a0 "java/lang/Integer") (P_F_a0_value : Fld Z h0 a0 cIN "value" "I" (.int f_a0_value)) (g_a0 : n0 ≤ a0) :
  qM l Z (⟨"java/lang/Integer", "<init>", "(I)V"⟩ : MethodName) jdk_33_method_23_code 2 none ws ({ frames := 2, cells := 0, slots := 0, locals := 24 } : Room) #[(.ref a0), (.int p1)] h0 (QiInt Z a0 p1 f_a0_value h0 n0) 0 0 := qe d56 (plainFor_of_name pn_iInt) (fun m => ef_iInt m a0 p1) fun p e s m below meth c s₁ hx y hml hlk hown hnm X0 e0 hZ hrt => by
 have hwd := qw hw
 have N0 := Fr.nil n0
 show qG p e below _ (s₁.setTop (mkF m 0 #[vR a0, vI p1] []))
 refine qb (fun _ k => XS.aloadN X0.here hx rfl (y 0 rfl) rfl rfl k) ?_
 obtain ⟨_, T1, Lc1, X1, hQ1, st1⟩ := own_cI X0 hx hZ hown hml (rmiNumber l Z A0 hw [] a0 h0 n0 Z0 ) (hwd 399 rfl) (hwd 400 rfl) (hwd 403 rfl) (hwd 404 rfl) (by decide) pd_19 e0 rfl (g := (mkF m 1 #[vR a0, vI p1] [(.ref a0)])) (rest := []) rfl rfl rfl rfl (y 1 rfl) rfl
 obtain ⟨rfl, Nq1, eq1⟩ := hQ1
 have N1 := Fr.app N0 Nq1
 refine qb st1 ?_
 show qG p e below _ (T1.setTop (mkF m 4 #[vR a0, vI p1] []))
 refine qb (fun _ k => XS.aloadN X1.here hx rfl (y 2 rfl) rfl rfl k) ?_
 refine qb (fun _ k => XS.iloadN X1.here hx rfl (y 3 rfl) rfl k) ?_
 obtain ⟨T2, h2, X2, e2, W2, st2⟩ := putF X1 hx hZ hown (host := "") (Or.inl (hwd 304 rfl)) Via.refl eq1 P_F_a0_value P_E_a0 (Or.inr ⟨(hwd 305 rfl), rfl, hnm⟩) (hwd 395 rfl) (ty := .int) (by decide) rfl rfl (g := (mkF m 6 #[vR a0, vI p1] [(.int p1), (.ref a0)])) rfl rfl (y 4 rfl)
 have Fw2 : Fld Z h2 a0 cIN "value" "I" (.int p1) := P_F_a0_value.same W2
 have K2 : Keep h0 h2 [a0] := (Keep.refl h0 [a0]).wr W2 (Or.inl (List.mem_of_getElem? (i := 0) rfl))
 have Z2 := ql Z0 (Keep.of_wr W2).1
 have N2 := Fr.snoc X2 N1 g_a0
 refine qb st2 ?_
 show qG p e below _ (T2.setTop (mkF m 9 #[vR a0, vI p1] []))
 have F3 := (P_E_a0.wr W2)
 exact own_ret0 X2 hx hrt (y 5 rfl) hlk e2 ⟨rfl, N2, K2, F3, Fw2⟩ (by decide) (by decide)
theorem pd_396 : parseMethodDescriptor "(I)V" = some ⟨[.int], none⟩ := by decide +kernel
theorem d39 : own_ds jdk_33_method_22_code [(0, .iload_n 0, 1), (1, .bipush (-128), 2), (3, .if_icmp .lt 20, 3), (6, .iload_n 0, 1), (7, .getstatic 191, 3), (10, .if_icmp .gt 13, 3), (13, .getstatic 195, 3), (16, .iload_n 0, 1), (17, .sipush 128, 3), (20, .iadd, 1), (21, .aaload, 1), (22, .areturn, 1), (23, .new 1, 3), (26, .dup, 1), (27, .iload_n 0, 1), (28, .invokespecial 199, 3), (31, .areturn, 1)] = true := by decide +kernel
theorem ef_ivo (m : MethodId) (p0 : Int32) : entryFrame m #[(.int p0)] 1 = mkF m 0 #[vI p0] [] := rfl
theorem ob_ivo_1 (p0 : Int32) (c1 : p0 < (-128 : Int32)) : True := by
  trivial
theorem ob_ivo_2 (p0 : Int32) (c1 : ¬ (p0 < (-128 : Int32))) (c7 : (127 : Int32) < p0) : True := by
  trivial
theorem ob_ivo_3 (p0 : Int32) (c1 : ¬ (p0 < (-128 : Int32))) (c7 : ¬ ((127 : Int32) < p0)) : (¬ (p0 + (128 : Int32)) < 0) ∧ (p0 + (128 : Int32)) < (256 : Int32) := by
  exact ⟨own_bx1 (by assumption) (by assumption), own_bx2 (by assumption) (by assumption)⟩
theorem ob_ivo_4 (p0 : Int32) (c1 : ¬ (p0 < (-128 : Int32))) (c7 : ¬ ((127 : Int32) < p0)) : ¬ ((p0 + (128 : Int32)) < 0) := by
  exact own_bx1 (by assumption) (by assumption)
theorem ob_ivo_5 (p0 : Int32) (c1 : ¬ (p0 < (-128 : Int32))) (c7 : ¬ ((127 : Int32) < p0)) : (p0 + (128 : Int32)) < 256 := by
  exact own_bx2 (by assumption) (by assumption)
theorem ob_ivo_6 (p0 : Int32) (c1 : ¬ (p0 < (-128 : Int32))) (c7 : ¬ ((127 : Int32) < p0)) : True := by
  trivial
def Qivo (Z : State) (f_CA : Addr) (k_CA : ClassId) (fn_CA : Nat → Value) (p0 : Int32) (h0 : Heap) (n0 : Nat) (v : Option Value) (h : Heap) (L : List Loc) : Prop := ∃ (rr : Addr), v = some (.ref rr) ∧ Fr n0 L ∧ Keep h0 h [] ∧ Exa Z h rr "java/lang/Integer" ∧ Fld Z h rr cIN "value" "I" (.int p0) ∧ (True)
theorem rmivo (l : Launch) (Z : State) (A0 : Array Value) (hw : ∀ d ∈ tables_1, d.before A0 Z = true) (ws : List Jvm.Cond) (f_CA : Addr) (k_CA : ClassId) (fn_CA : Nat → Value) (p0 : Int32) (h0 : Heap) (n0 : Nat) (Z0 : n0 ≤ h0.size) (P_S_HI : Sta Z h0 "java/lang/Integer$IntegerCache" "high" "I" (.int 127)) (P_S_CA : Sta Z h0 "java/lang/Integer$IntegerCache" "cache" "[Ljava/lang/Integer;" (.ref f_CA)) (P_Ca : own_Ca Z h0 f_CA k_CA fn_CA) :
  qM l Z (⟨"java/lang/Integer", "valueOf", "(I)Ljava/lang/Integer;"⟩ : MethodName) jdk_33_method_22_code 1 (some (.object "java/lang/Integer")) ws ({ frames := 3, cells := 1, slots := 1, locals := 38 } : Room) #[(.int p0)] h0 (Qivo Z f_CA k_CA fn_CA p0 h0 n0) 1 1 := qe d39 (plainFor_of_name pn_iInt) (fun m => ef_ivo m p0) fun p e s m below meth c s₁ hx y hml hlk hown hnm X0 e0 hZ hrt => by
 have hwd := qw hw
 have N0 := Fr.nil n0
 show qG p e below _ (s₁.setTop (mkF m 0 #[vI p0] []))
 have VCa := P_Ca.1
 refine qb (fun _ k => XS.iloadN X0.here hx rfl (y 0 rfl) rfl k) ?_
 refine qb (fun _ k => XS.bipush X0.here hx rfl (y 1 rfl) k) ?_
 by_cases c1 : p0 < (-128 : Int32)
 ·skip
  refine qb (fun _ k => XS.icmpYes X0.here hx rfl (pc0 := 3) (pc' := 23) rfl (y 2 rfl) rfl (tlt c1).1 (by decide) (by decide) k) ?_
  show qG p e below _ (s₁.setTop (mkF m 23 #[vI p0] []))
  obtain ⟨T2, h2, X2, e2, E2, A2, D2, -, st2⟩ := newO X0 hx hZ hown (hwd 394 rfl) (hwd 395 rfl) (hwd 278 rfl) e0 (g := (mkF m 23 #[vI p0] [])) rfl (y 12 rfl) (by decide) (by decide)
  obtain ⟨b2, g2⟩ : ∃ z, z = h0.size := ⟨_, rfl⟩
  have ge_b2 : n0 ≤ b2 := ql Z0 (Nat.le_of_eq g2.symm)
  have sz_b2 := ql (Keep.refl h0 []).1 (Nat.le_of_eq g2.symm)
  have K2 : Keep h0 h2 [] := (Keep.refl h0 []).ext E2
  have Z2 := ql Z0 E2.1
  rw [← g2] at A2 D2 st2
  have F_value_b2 : Fld Z h2 b2 cIN "value" "I" (.int 0) := D2 (Or.inr (hwd 305 rfl)) (ty := .int) (by decide)
  refine qb st2 ?_
  show qG p e below _ (T2.setTop (mkF m 26 #[vI p0] [(.ref b2)]))
  refine qb (fun _ k => XS.dup X2.here hx rfl (y 13 rfl) rfl rfl k) ?_
  refine qb (fun _ k => XS.iloadN X2.here hx rfl (y 14 rfl) rfl k) ?_
  obtain ⟨_, T3, Lc3, X3, hQ3, st3⟩ := own_cI X2 hx hZ hown hml (rmiInt l Z A0 hw [] b2 p0 (0 : Int32) h2 n0 Z2 A2 F_value_b2 ge_b2) (hwd 396 rfl) (hwd 397 rfl) (hwd 278 rfl) (hwd 398 rfl) (by decide) pd_396 e2 rfl (g := (mkF m 28 #[vI p0] [(.int p0), (.ref b2), (.ref b2)])) (rest := [(.ref b2)]) rfl rfl rfl rfl (y 15 rfl) rfl
  obtain ⟨rfl, Nq3, Kq3, F4, F5⟩ := hQ3
  have N3 := Fr.app N0 Nq3
  have K3 : Keep h0 T3.heap [] := K2.trans Kq3 ((allS (Or.inr sz_b2) all0))
  have Z3 := ql Z2 Kq3.1
  refine qb st3 ?_
  show qG p e below _ (T3.setTop (mkF m 31 #[vI p0] [(.ref b2)]))
  exact own_retR X3 hx hrt (by decide) rfl (y 16 rfl) hlk rfl ⟨b2, rfl, N3, K3, F4, F5, (ob_ivo_1 p0 c1)⟩ (by decide) (by decide)
 ·skip
  refine qb (fun _ k => XS.icmpNo X0.here hx rfl (y 2 rfl) rfl (flt c1).1 k) ?_
  show qG p e below _ (s₁.setTop (mkF m 6 #[vI p0] []))
  refine qb (fun _ k => XS.iloadN X0.here hx rfl (y 3 rfl) rfl k) ?_
  obtain ⟨T6, X6, e6, st6⟩ := getS2 X0 hx hZ hown (host := "") (Or.inl (hwd 280 rfl)) Via.refl e0 P_S_HI (g := (mkF m 7 #[vI p0] [(.int p0)])) rfl (y 4 rfl)
  refine qb st6 ?_
  by_cases c7 : (127 : Int32) < p0
  ·skip
   refine qb (fun _ k => XS.icmpYes X6.here hx rfl (pc0 := 10) (pc' := 23) rfl (y 5 rfl) rfl (tlt c7).2.2.1 (by decide) (by decide) k) ?_
   show qG p e below _ (T6.setTop (mkF m 23 #[vI p0] []))
   obtain ⟨T8, h8, X8, e8, E8, A8, D8, -, st8⟩ := newO X6 hx hZ hown (hwd 394 rfl) (hwd 395 rfl) (hwd 278 rfl) e6 (g := (mkF m 23 #[vI p0] [])) rfl (y 12 rfl) (by decide) (by decide)
   obtain ⟨b8, g8⟩ : ∃ z, z = h0.size := ⟨_, rfl⟩
   have ge_b8 : n0 ≤ b8 := ql Z0 (Nat.le_of_eq g8.symm)
   have sz_b8 := ql (Keep.refl h0 []).1 (Nat.le_of_eq g8.symm)
   have K8 : Keep h0 h8 [] := (Keep.refl h0 []).ext E8
   have Z8 := ql Z0 E8.1
   rw [← g8] at A8 D8 st8
   have F_value_b8 : Fld Z h8 b8 cIN "value" "I" (.int 0) := D8 (Or.inr (hwd 305 rfl)) (ty := .int) (by decide)
   refine qb st8 ?_
   show qG p e below _ (T8.setTop (mkF m 26 #[vI p0] [(.ref b8)]))
   refine qb (fun _ k => XS.dup X8.here hx rfl (y 13 rfl) rfl rfl k) ?_
   refine qb (fun _ k => XS.iloadN X8.here hx rfl (y 14 rfl) rfl k) ?_
   obtain ⟨_, T9, Lc9, X9, hQ9, st9⟩ := own_cI X8 hx hZ hown hml (rmiInt l Z A0 hw [] b8 p0 (0 : Int32) h8 n0 Z8 A8 F_value_b8 ge_b8) (hwd 396 rfl) (hwd 397 rfl) (hwd 278 rfl) (hwd 398 rfl) (by decide) pd_396 e8 rfl (g := (mkF m 28 #[vI p0] [(.int p0), (.ref b8), (.ref b8)])) (rest := [(.ref b8)]) rfl rfl rfl rfl (y 15 rfl) rfl
   obtain ⟨rfl, Nq9, Kq9, F10, F11⟩ := hQ9
   have N9 := Fr.app N0 Nq9
   have K9 : Keep h0 T9.heap [] := K8.trans Kq9 ((allS (Or.inr sz_b8) all0))
   have Z9 := ql Z8 Kq9.1
   refine qb st9 ?_
   show qG p e below _ (T9.setTop (mkF m 31 #[vI p0] [(.ref b8)]))
   exact own_retR X9 hx hrt (by decide) rfl (y 16 rfl) hlk rfl ⟨b8, rfl, N9, K9, F10, F11, (ob_ivo_2 p0 c1 c7)⟩ (by decide) (by decide)
  ·skip
   refine qb (fun _ k => XS.icmpNo X6.here hx rfl (y 5 rfl) rfl (flt c7).2.2.1 k) ?_
   show qG p e below _ (T6.setTop (mkF m 13 #[vI p0] []))
   obtain ⟨T12, X12, e12, st12⟩ := getS2 X6 hx hZ hown (host := "") (Or.inl (hwd 282 rfl)) Via.refl e6 P_S_CA (g := (mkF m 13 #[vI p0] [])) rfl (y 6 rfl)
   refine qb st12 ?_
   refine qb (fun _ k => XS.iloadN X12.here hx rfl (y 7 rfl) rfl k) ?_
   refine qb (fun _ k => XS.sipush X12.here hx rfl (y 8 rfl) k) ?_
   refine qb (fun _ k => XS.iadd X12.here hx rfl (y 9 rfl) rfl k) ?_
   refine qb (own_ldR X12 hx hZ e12 VCa (j := (p0 + (128 : Int32))) (ob_ivo_3 p0 c1 c7) (g := (mkF m 21 #[vI p0] [(.int (p0 + (128 : Int32))), (.ref f_CA)])) rfl rfl (y 10 rfl)) ?_
   show qG p e below _ (T12.setTop (mkF m 22 #[vI p0] [(fn_CA ((p0 + (128 : Int32))).toNatClampNeg)]))
   obtain ⟨b13, hb13, B13⟩ := P_Ca.2.2 ((p0 + (128 : Int32))) (ob_ivo_4 p0 c1 c7) (ob_ivo_5 p0 c1 c7)
   rw [hb13]
   have Bv13 : Fld Z h0 b13 cIN "value" "I" (.int p0) := by have q := B13.2; rwa [own_bx3] at q
   show qG p e below _ (T12.setTop (mkF m 22 #[vI p0] [(.ref b13)]))
   exact own_retR X12 hx hrt (by decide) rfl (y 11 rfl) hlk e12 ⟨b13, rfl, N0, (Keep.refl h0 []), B13.1, Bv13, (ob_ivo_6 p0 c1 c7)⟩ (by decide) (by decide)
theorem d33 : own_ds jdk_29_method_65_code [(0, .iload_n 0, 1), (1, .iload_n 1, 1), (2, .if_icmp .lt 7, 3), (5, .iload_n 0, 1), (6, .goto 4, 3), (10, .ireturn, 1)] = true := by decide +kernel
theorem ef_max10 (m : MethodId)  : entryFrame m #[(.int 10), (.int 1)] 2 = mkF m 0 #[vI 10, vI 1] [] := rfl
def Qmax10 (Z : State)  (h0 : Heap) (n0 : Nat) (v : Option Value) (h : Heap) (L : List Loc) : Prop := v = some (.int 10) ∧ Fr n0 L ∧ h = h0
theorem rmmax10 (l : Launch) (Z : State) (A0 : Array Value) (hw : ∀ d ∈ tables_1, d.before A0 Z = true) (ws : List Jvm.Cond)  (h0 : Heap) (n0 : Nat) (Z0 : n0 ≤ h0.size) :
  qM l Z (⟨"java/lang/Math", "max", "(II)I"⟩ : MethodName) jdk_29_method_65_code 2 (some .int) ws ({ frames := 0, cells := 0, slots := 0, locals := 0 } : Room) #[(.int 10), (.int 1)] h0 (Qmax10 Z  h0 n0) 0 0 := qe d33 (Jvm.Free.JP.mathPlain rfl (by decide +kernel)) (fun m => ef_max10 m ) fun p e s m below meth c s₁ hx y hml hlk hown hnm X0 e0 hZ hrt => by
 have hwd := qw hw
 have N0 := Fr.nil n0
 show qG p e below _ (s₁.setTop (mkF m 0 #[vI 10, vI 1] []))
 refine qb (fun _ k => XS.iloadN X0.here hx rfl (y 0 rfl) rfl k) ?_
 refine qb (fun _ k => XS.iloadN X0.here hx rfl (y 1 rfl) rfl k) ?_
 refine qb (fun _ k => XS.icmpNo X0.here hx rfl (y 2 rfl) rfl (flt (by decide : ¬ ((10 : Int32) < (1 : Int32)))).1 k) ?_
 show qG p e below _ (s₁.setTop (mkF m 5 #[vI 10, vI 1] []))
 refine qb (fun _ k => XS.iloadN X0.here hx rfl (y 3 rfl) rfl k) ?_
 refine qb (fun _ k => XS.goto X0.here hx rfl (pc0 := 6) (pc' := 10) rfl (y 4 rfl) (by decide) (by decide) k) ?_
 show qG p e below _ (s₁.setTop (mkF m 10 #[vI 10, vI 1] [(.int 10)]))
 exact own_retI X0 hx hrt (y 5 rfl) hlk e0 ⟨rfl, N0, rfl⟩ (by decide) (by decide)
theorem pd_241 : parseMethodDescriptor "(II)I" = some ⟨[.int, .int], some .int⟩ := by decide +kernel
theorem d32 : own_ds jdk_38_method_6_code [(0, .aload_n 0, 1), (1, .getfield 9, 3), (4, .arraylength, 1), (5, .istore_n 2, 1), (6, .iload_n 2, 1), (7, .ifCond .gt 13, 3), (10, .aload_n 0, 1), (11, .getfield 9, 3), (14, .getstatic 39, 3), (17, .if_acmp .eq 28, 3), (45, .aload_n 0, 1), (46, .bipush 10, 2), (48, .iload_n 1, 1), (49, .invokestatic 79, 3), (52, .anewarray 7, 3), (55, .dup_x1, 1), (56, .putfield 9, 3), (59, .areturn, 1)] = true := by decide +kernel
theorem ef_grow1 (m : MethodId) (a0 : Addr) : entryFrame m #[(.ref a0), (.int 1)] 4 = mkF m 0 #[vR a0, vI 1, .unset, .unset] [] := rfl
def Qgrow1 (Z : State) (f_DE : Addr) (k_f_DE : ClassId) (fn_f_DE : Nat → Value) (mc_a0 : Int32) (a0 : Addr) (h0 : Heap) (n0 : Nat) (v : Option Value) (h : Heap) (L : List Loc) : Prop := ∃ (b6 : Addr) (k6 : ClassId), v = some (.ref b6) ∧ Fr n0 L ∧ Keep h0 h [a0] ∧ Exa Z h a0 "java/util/ArrayList" ∧ Fld Z h a0 "java/util/AbstractList" "modCount" "I" (.int mc_a0) ∧ Fld Z h a0 cAL "elementData" "[Ljava/lang/Object;" (.ref b6) ∧ Fld Z h a0 cAL "size" "I" (.int 0) ∧ (n0 ≤ b6) ∧ (h0.size ≤ b6) ∧ Exa Z h b6 "[Ljava/lang/Object;" ∧ qA Z h b6 k6 (.object "java/lang/Object") (10 : Int32) (fun i => (fun _ => Value.null) i) ∧ (Ovr Z k6 "java/lang/Object")
theorem rmgrow1 (l : Launch) (Z : State) (A0 : Array Value) (hw : ∀ d ∈ tables_1, d.before A0 Z = true) (ws : List Jvm.Cond) (f_DE : Addr) (k_f_DE : ClassId) (fn_f_DE : Nat → Value) (mc_a0 : Int32) (a0 : Addr) (h0 : Heap) (n0 : Nat) (Z0 : n0 ≤ h0.size) (P_E_a0 : Exa Z h0 a0 "java/util/ArrayList") (P_F_a0_modCount : Fld Z h0 a0 "java/util/AbstractList" "modCount" "I" (.int mc_a0)) (P_F_a0_elementData : Fld Z h0 a0 cAL "elementData" "[Ljava/lang/Object;" (.ref f_DE)) (P_F_a0_size : Fld Z h0 a0 cAL "size" "I" (.int 0)) (P_S_DE : Sta Z h0 cAL "DEFAULTCAPACITY_EMPTY_ELEMENTDATA" "[Ljava/lang/Object;" (.ref f_DE)) (P_V_f_DE : qA Z h0 f_DE k_f_DE (.object "java/lang/Object") (0 : Int32) (fun i => fn_f_DE i)) (g_a0 : n0 ≤ a0) :
  qM l Z (⟨"java/util/ArrayList", "grow", "(I)[Ljava/lang/Object;"⟩ : MethodName) jdk_38_method_6_code 4 (some (.array (.object "java/lang/Object"))) ws ({ frames := 1, cells := 1, slots := 10, locals := 14 } : Room) #[(.ref a0), (.int 1)] h0 (Qgrow1 Z f_DE k_f_DE fn_f_DE mc_a0 a0 h0 n0) 1 10 := qe d32 (plainFor_of_name pn_iArr) (fun m => ef_grow1 m a0) fun p e s m below meth c s₁ hx y hml hlk hown hnm X0 e0 hZ hrt => by
 have hwd := qw hw
 have N0 := Fr.nil n0
 show qG p e below _ (s₁.setTop (mkF m 0 #[vR a0, vI 1, .unset, .unset] []))
 refine qb (fun _ k => XS.aloadN X0.here hx rfl (y 0 rfl) rfl rfl k) ?_
 obtain ⟨T1, X1, e1, st1⟩ := getF X0 hx hZ hown (host := "") (Or.inl (hwd 64 rfl)) Via.refl e0 P_F_a0_elementData (g := (mkF m 1 #[vR a0, vI 1, .unset, .unset] [(.ref a0)])) rfl rfl (y 1 rfl)
 refine qb st1 ?_
 obtain ⟨cl2, Ar2, qq2, S2, M2, H2, G2⟩ := id P_V_f_DE
 refine qb (fun t k => X1.arraylength hx (by rw [e1]; exact Ar2.1) (State.isArrayOf_alike hZ.alike Ar2.2.1) (g := (mkF m 4 #[vR a0, vI 1, .unset, .unset] [(.ref f_DE)])) rfl rfl (y 2 rfl) _ k) ?_
 rw [len_of S2 M2]
 show qG p e below _ (T1.setTop (mkF m 5 #[vR a0, vI 1, .unset, .unset] [(.int 0)]))
 refine qb (fun _ k => XS.istoreN X1.here hx rfl (y 3 rfl) rfl (l' := #[vR a0, vI 1, vI 0, .unset]) rfl k) ?_
 show qG p e below _ (T1.setTop (mkF m 6 #[vR a0, vI 1, vI 0, .unset] []))
 refine qb (fun _ k => XS.iloadN X1.here hx rfl (y 4 rfl) rfl k) ?_
 refine qb (fun _ k => XS.ifNo X1.here hx rfl (y 5 rfl) rfl ((if0 _ _).trans (flt (by decide : ¬ ((0 : Int32) < (0 : Int32)))).2.2.1) k) ?_
 show qG p e below _ (T1.setTop (mkF m 10 #[vR a0, vI 1, vI 0, .unset] []))
 refine qb (fun _ k => XS.aloadN X1.here hx rfl (y 6 rfl) rfl rfl k) ?_
 obtain ⟨T3, X3, e3, st3⟩ := getF X1 hx hZ hown (host := "") (Or.inl (hwd 64 rfl)) Via.refl e1 P_F_a0_elementData (g := (mkF m 11 #[vR a0, vI 1, vI 0, .unset] [(.ref a0)])) rfl rfl (y 7 rfl)
 refine qb st3 ?_
 obtain ⟨T4, X4, e4, st4⟩ := getS2 X3 hx hZ hown (host := "") (Or.inl (hwd 63 rfl)) Via.refl e3 P_S_DE (g := (mkF m 14 #[vR a0, vI 1, vI 0, .unset] [(.ref f_DE)])) rfl (y 8 rfl)
 refine qb st4 ?_
 refine qb (fun _ k => Jvm.RoadKit.acmp (g := (mkF m 17 #[vR a0, vI 1, vI 0, .unset] [(.ref f_DE), (.ref f_DE)])) X4 hx rfl rfl rfl (pc0 := 17) (pc' := 45) (same := true) rfl (y 9 rfl) rfl (decide_eq_true rfl) (by decide) (by decide) k) ?_
 show qG p e below _ (T4.setTop (mkF m 45 #[vR a0, vI 1, vI 0, .unset] []))
 refine qb (fun _ k => XS.aloadN X4.here hx rfl (y 10 rfl) rfl rfl k) ?_
 refine qb (fun _ k => XS.bipush X4.here hx rfl (y 11 rfl) k) ?_
 refine qb (fun _ k => XS.iloadN X4.here hx rfl (y 12 rfl) rfl k) ?_
 obtain ⟨_, T5, Lc5, X5, hQ5, st5⟩ := own_cS X4 hx hZ hown hml (rmmax10 l Z A0 hw []  h0 n0 Z0 ) (hwd 241 rfl) (hwd 242 rfl) (hwd 243 rfl) (hwd 244 rfl) (by decide) pd_241 e4 (g := (mkF m 49 #[vR a0, vI 1, vI 0, .unset] [(.int 1), (.int 10), (.ref a0)])) (rest := [(.ref a0)]) rfl rfl rfl rfl (y 13 rfl) rfl
 obtain ⟨rfl, Nq5, eq5⟩ := hQ5
 have N5 := Fr.app N0 Nq5
 refine qb st5 ?_
 show qG p e below _ (T5.setTop (mkF m 52 #[vR a0, vI 1, vI 0, .unset] [(.int 10), (.ref a0)]))
 obtain ⟨T6, h6, k6, X6, e6, E6, A6, Ax6, O6, st6⟩ := newRE X5 hx hZ hown (hwd 245 rfl) (hwd 246 rfl) eq5 (g := (mkF m 52 #[vR a0, vI 1, vI 0, .unset] [(.int 10), (.ref a0)])) rfl (y 14 rfl) rfl (by decide) (cap := 10) (by decide) (by decide) (by decide) (by decide) (ad := "[Ljava/lang/Object;") (by decide)
 obtain ⟨b6, g6⟩ : ∃ z, z = h0.size := ⟨_, rfl⟩
 have ge_b6 : n0 ≤ b6 := ql Z0 (Nat.le_of_eq g6.symm)
 have sz_b6 := ql (Keep.refl h0 [a0]).1 (Nat.le_of_eq g6.symm)
 have K6 : Keep h0 h6 [a0] := (Keep.refl h0 [a0]).ext E6
 have Z6 := ql Z0 E6.1
 rw [← g6] at A6 Ax6 st6
 have V6 : qA Z h6 b6 k6 (.object "java/lang/Object") (10 : Int32) (fun i => (fun _ => Value.null) i) := own_arfNewR A6 (by decide)
 refine qb st6 ?_
 show qG p e below _ (T6.setTop (mkF m 55 #[vR a0, vI 1, vI 0, .unset] [(.ref b6), (.ref a0)]))
 refine qb (fun _ k => XS.dupX1 X6.here hx rfl (y 15 rfl) rfl rfl rfl k) ?_
 show qG p e below _ (T6.setTop (mkF m 56 #[vR a0, vI 1, vI 0, .unset] [(.ref b6), (.ref a0), (.ref b6)]))
 have F7 := (P_E_a0.ext E6)
 have F8 := (P_F_a0_elementData.ext E6)
 obtain ⟨T9, h9, X9, e9, W9, st9⟩ := putF X6 hx hZ hown (host := "") (Or.inl (hwd 64 rfl)) Via.refl e6 F8 F7 (Or.inl (hwd 65 rfl)) (hwd 43 rfl) (ty := (.array (.object "java/lang/Object"))) (by decide) rfl rfl (g := (mkF m 56 #[vR a0, vI 1, vI 0, .unset] [(.ref b6), (.ref a0), (.ref b6)])) rfl rfl (y 16 rfl)
 have Fw9 : Fld Z h9 a0 cAL "elementData" "[Ljava/lang/Object;" (.ref b6) := F8.same W9
 have K9 : Keep h0 h9 [a0] := K6.wr W9 (Or.inl (List.mem_of_getElem? (i := 0) rfl))
 have Z9 := ql Z6 (Keep.of_wr W9).1
 have N9 := Fr.snoc X9 N5 g_a0
 refine qb st9 ?_
 show qG p e below _ (T9.setTop (mkF m 59 #[vR a0, vI 1, vI 0, .unset] [(.ref b6)]))
 have F10 := (F7.wr W9)
 have F11 := ((P_F_a0_modCount.ext E6).other W9 (Or.inr (slot_ne (Or.inl (hwd 62 rfl)) (Or.inl (hwd 65 rfl)) (by decide) (t := .int) (t' := (.array (.object "java/lang/Object"))) (by decide) (by decide))))
 have F12 := ((P_F_a0_size.ext E6).other W9 (Or.inr (slot_ne (Or.inl (hwd 103 rfl)) (Or.inl (hwd 65 rfl)) (by decide) (t := .int) (t' := (.array (.object "java/lang/Object"))) (by decide) (by decide))))
 have F13 := (Ax6.wr W9)
 have nq14 := ne_exa F13 F10 (by decide)
 have F15 := (V6.other W9 nq14)
 exact own_retR X9 hx hrt (by decide) rfl (y 17 rfl) hlk e9 ⟨_, _, rfl, N9, K9, F10, F11, Fw9, F12, ge_b6, sz_b6, F13, F15, O6⟩ (by decide) (by decide)
theorem pd_236 : parseMethodDescriptor "(I)[Ljava/lang/Object;" = some ⟨[.int], some (.array (.object "java/lang/Object"))⟩ := by decide +kernel
theorem d31 : own_ds jdk_38_method_7_code [(0, .aload_n 0, 1), (1, .aload_n 0, 1), (2, .getfield 48, 3), (5, .iconst 1, 1), (6, .iadd, 1), (7, .invokevirtual 69, 3), (10, .areturn, 1)] = true := by decide +kernel
theorem ef_grow0 (m : MethodId) (a0 : Addr) : entryFrame m #[(.ref a0)] 1 = mkF m 0 #[vR a0] [] := rfl
def Qgrow0 (Z : State) (f_DE : Addr) (k_f_DE : ClassId) (fn_f_DE : Nat → Value) (mc_a0 : Int32) (a0 : Addr) (h0 : Heap) (n0 : Nat) (v : Option Value) (h : Heap) (L : List Loc) : Prop := ∃ (b3 : Addr) (b4 : ClassId), v = some (.ref b3) ∧ Fr n0 L ∧ Keep h0 h [a0] ∧ Exa Z h a0 "java/util/ArrayList" ∧ Fld Z h a0 "java/util/AbstractList" "modCount" "I" (.int mc_a0) ∧ Fld Z h a0 cAL "elementData" "[Ljava/lang/Object;" (.ref b3) ∧ Fld Z h a0 cAL "size" "I" (.int 0) ∧ (n0 ≤ b3) ∧ (h0.size ≤ b3) ∧ Exa Z h b3 "[Ljava/lang/Object;" ∧ qA Z h b3 b4 (.object "java/lang/Object") (10 : Int32) (fun i => (fun _ => Value.null) i) ∧ (Ovr Z b4 "java/lang/Object")
theorem rmgrow0 (l : Launch) (Z : State) (A0 : Array Value) (hw : ∀ d ∈ tables_1, d.before A0 Z = true) (ws : List Jvm.Cond) (f_DE : Addr) (k_f_DE : ClassId) (fn_f_DE : Nat → Value) (mc_a0 : Int32) (a0 : Addr) (h0 : Heap) (n0 : Nat) (Z0 : n0 ≤ h0.size) (P_E_a0 : Exa Z h0 a0 "java/util/ArrayList") (P_F_a0_modCount : Fld Z h0 a0 "java/util/AbstractList" "modCount" "I" (.int mc_a0)) (P_F_a0_elementData : Fld Z h0 a0 cAL "elementData" "[Ljava/lang/Object;" (.ref f_DE)) (P_F_a0_size : Fld Z h0 a0 cAL "size" "I" (.int 0)) (P_S_DE : Sta Z h0 cAL "DEFAULTCAPACITY_EMPTY_ELEMENTDATA" "[Ljava/lang/Object;" (.ref f_DE)) (P_V_f_DE : qA Z h0 f_DE k_f_DE (.object "java/lang/Object") (0 : Int32) (fun i => fn_f_DE i)) (g_a0 : n0 ≤ a0) :
  qM l Z (⟨"java/util/ArrayList", "grow", "()[Ljava/lang/Object;"⟩ : MethodName) jdk_38_method_7_code 1 (some (.array (.object "java/lang/Object"))) ws ({ frames := 2, cells := 1, slots := 10, locals := 29 } : Room) #[(.ref a0)] h0 (Qgrow0 Z f_DE k_f_DE fn_f_DE mc_a0 a0 h0 n0) 1 10 := qe d31 (plainFor_of_name pn_iArr) (fun m => ef_grow0 m a0) fun p e s m below meth c s₁ hx y hml hlk hown hnm X0 e0 hZ hrt => by
 have hwd := qw hw
 have N0 := Fr.nil n0
 show qG p e below _ (s₁.setTop (mkF m 0 #[vR a0] []))
 refine qb (fun _ k => XS.aloadN X0.here hx rfl (y 0 rfl) rfl rfl k) ?_
 refine qb (fun _ k => XS.aloadN X0.here hx rfl (y 1 rfl) rfl rfl k) ?_
 obtain ⟨T1, X1, e1, st1⟩ := getF X0 hx hZ hown (host := "") (Or.inl (hwd 102 rfl)) Via.refl e0 P_F_a0_size (g := (mkF m 2 #[vR a0] [(.ref a0), (.ref a0)])) rfl rfl (y 2 rfl)
 refine qb st1 ?_
 refine qb (fun _ k => XS.iconst X1.here hx rfl (y 3 rfl) k) ?_
 refine qb (fun _ k => XS.iadd X1.here hx rfl (y 4 rfl) rfl k) ?_
 obtain ⟨_, T2, Lc2, X2, hQ2, st2⟩ := own_cP X1 hx hZ hown hml (rmgrow1 l Z A0 hw [] f_DE k_f_DE fn_f_DE mc_a0 a0 h0 n0 Z0 P_E_a0 P_F_a0_modCount P_F_a0_elementData P_F_a0_size P_S_DE P_V_f_DE g_a0) (hwd 236 rfl) (hwd 237 rfl) (hwd 44 rfl) (hwd 240 rfl) (by decide) pd_236 e1 (hwd 238 rfl) (own_selPriv hZ (hwd 43 rfl) (hwd 238 rfl) (hwd 237 rfl) (by decide)) P_E_a0 (g := (mkF m 7 #[vR a0] [(.int 1), (.ref a0)])) (rest := []) rfl rfl rfl rfl (y 5 rfl) rfl
 obtain ⟨b3, b4, rfl, Nq2, Kq2, F5, F6, F7, F8, hp9, hp10, F11, F12, hp13⟩ := hQ2
 have N2 := Fr.app N0 Nq2
 have K2 : Keep h0 T2.heap [a0] := (Keep.refl h0 [a0]).trans Kq2 ((allS (Or.inl (List.mem_of_getElem? (i := 0) rfl)) all0))
 have Z2 := ql Z0 Kq2.1
 have sz_b3 := ql (Keep.refl h0 [a0]).1 hp10
 refine qb st2 ?_
 show qG p e below _ (T2.setTop (mkF m 10 #[vR a0] [(.ref b3)]))
 exact own_retR X2 hx hrt (by decide) rfl (y 6 rfl) hlk rfl ⟨_, _, rfl, N2, K2, F5, F6, F7, F8, hp9, sz_b3, F11, F12, hp13⟩ (by decide) (by decide)
theorem pd_231 : parseMethodDescriptor "()[Ljava/lang/Object;" = some ⟨[], some (.array (.object "java/lang/Object"))⟩ := by decide +kernel
theorem d30 : own_ds jdk_38_method_24_code [(0, .iload_n 3, 1), (1, .aload_n 2, 1), (2, .arraylength, 1), (3, .if_icmp .ne 8, 3), (6, .aload_n 0, 1), (7, .invokevirtual 129, 3), (10, .astore_n 2, 1), (11, .aload_n 2, 1), (12, .iload_n 3, 1), (13, .aload_n 1, 1), (14, .aastore, 1), (15, .aload_n 0, 1), (16, .iload_n 3, 1), (17, .iconst 1, 1), (18, .iadd, 1), (19, .putfield 48, 3), (22, .return_, 1)] = true := by decide +kernel
theorem ef_a3_0 (m : MethodId) (a0 a1 a2 : Addr) : entryFrame m #[(.ref a0), (.ref a1), (.ref a2), (.int 0)] 4 = mkF m 0 #[vR a0, vR a1, vR a2, vI 0] [] := rfl
def Qa3_0 (Z : State) (k_a2 : ClassId) (fn_a2 : Nat → Value) (mc_a0 : Int32) (a0 a1 a2 : Addr) (h0 : Heap) (n0 : Nat) (v : Option Value) (h : Heap) (L : List Loc) : Prop := ∃ (b3 : Addr) (b4 : ClassId), v = none ∧ Fr n0 L ∧ Keep h0 h [a0] ∧ Exa Z h a0 "java/util/ArrayList" ∧ Fld Z h a0 "java/util/AbstractList" "modCount" "I" (.int mc_a0) ∧ Fld Z h a0 cAL "elementData" "[Ljava/lang/Object;" (.ref b3) ∧ Fld Z h a0 cAL "size" "I" (.int 1) ∧ (n0 ≤ b3) ∧ (h0.size ≤ b3) ∧ Exa Z h b3 "[Ljava/lang/Object;" ∧ qA Z h b3 b4 (.object "java/lang/Object") (10 : Int32) (fun i => (qu (fun _ => Value.null) 0 (.ref a1)) i) ∧ (Ovr Z b4 "java/lang/Object")
theorem rma3_0 (l : Launch) (Z : State) (A0 : Array Value) (hw : ∀ d ∈ tables_1, d.before A0 Z = true) (ws : List Jvm.Cond) (k_a2 : ClassId) (fn_a2 : Nat → Value) (mc_a0 : Int32) (a0 a1 a2 : Addr) (h0 : Heap) (n0 : Nat) (Z0 : n0 ≤ h0.size) (P_E_a0 : Exa Z h0 a0 "java/util/ArrayList") (P_F_a0_modCount : Fld Z h0 a0 "java/util/AbstractList" "modCount" "I" (.int mc_a0)) (P_F_a0_elementData : Fld Z h0 a0 cAL "elementData" "[Ljava/lang/Object;" (.ref a2)) (P_F_a0_size : Fld Z h0 a0 cAL "size" "I" (.int 0)) (P_E_a1 : Exa Z h0 a1 "com/example/libacross/libacross/format/Hit") (P_S_DE : Sta Z h0 cAL "DEFAULTCAPACITY_EMPTY_ELEMENTDATA" "[Ljava/lang/Object;" (.ref a2)) (P_V_a2 : qA Z h0 a2 k_a2 (.object "java/lang/Object") (0 : Int32) (fun i => fn_a2 i)) (g_a0 : n0 ≤ a0) :
  qM l Z (⟨"java/util/ArrayList", "add", "(Ljava/lang/Object;[Ljava/lang/Object;I)V"⟩ : MethodName) jdk_38_method_24_code 4 none ws ({ frames := 3, cells := 1, slots := 10, locals := 41 } : Room) #[(.ref a0), (.ref a1), (.ref a2), (.int 0)] h0 (Qa3_0 Z k_a2 fn_a2 mc_a0 a0 a1 a2 h0 n0) 1 10 := qe d30 (plainFor_of_name pn_iArr) (fun m => ef_a3_0 m a0 a1 a2) fun p e s m below meth c s₁ hx y hml hlk hown hnm X0 e0 hZ hrt => by
 have hwd := qw hw
 have N0 := Fr.nil n0
 show qG p e below _ (s₁.setTop (mkF m 0 #[vR a0, vR a1, vR a2, vI 0] []))
 refine qb (fun _ k => XS.iloadN X0.here hx rfl (y 0 rfl) rfl k) ?_
 refine qb (fun _ k => XS.aloadN X0.here hx rfl (y 1 rfl) rfl rfl k) ?_
 obtain ⟨cl1, Ar1, qq1, S1, M1, H1, G1⟩ := id P_V_a2
 refine qb (fun t k => X0.arraylength hx (by rw [e0]; exact Ar1.1) (State.isArrayOf_alike hZ.alike Ar1.2.1) (g := (mkF m 2 #[vR a0, vR a1, vR a2, vI 0] [(.ref a2), (.int 0)])) rfl rfl (y 2 rfl) _ k) ?_
 rw [len_of S1 M1]
 show qG p e below _ (s₁.setTop (mkF m 3 #[vR a0, vR a1, vR a2, vI 0] [(.int 0), (.int 0)]))
 refine qb (fun _ k => XS.icmpNo X0.here hx rfl (y 3 rfl) rfl (teq (by decide : (0 : Int32) = (0 : Int32))).2 k) ?_
 show qG p e below _ (s₁.setTop (mkF m 6 #[vR a0, vR a1, vR a2, vI 0] []))
 refine qb (fun _ k => XS.aloadN X0.here hx rfl (y 4 rfl) rfl rfl k) ?_
 obtain ⟨_, T2, Lc2, X2, hQ2, st2⟩ := own_cP X0 hx hZ hown hml (rmgrow0 l Z A0 hw [] a2 k_a2 fn_a2 mc_a0 a0 h0 n0 Z0 P_E_a0 P_F_a0_modCount P_F_a0_elementData P_F_a0_size P_S_DE P_V_a2 g_a0) (hwd 231 rfl) (hwd 232 rfl) (hwd 44 rfl) (hwd 235 rfl) (by decide) pd_231 e0 (hwd 233 rfl) (own_selPriv hZ (hwd 43 rfl) (hwd 233 rfl) (hwd 232 rfl) (by decide)) P_E_a0 (g := (mkF m 7 #[vR a0, vR a1, vR a2, vI 0] [(.ref a0)])) (rest := []) rfl rfl rfl rfl (y 5 rfl) rfl
 obtain ⟨b3, b4, rfl, Nq2, Kq2, F5, F6, F7, F8, hp9, hp10, F11, F12, hp13⟩ := hQ2
 have N2 := Fr.app N0 Nq2
 have K2 : Keep h0 T2.heap [a0] := (Keep.refl h0 [a0]).trans Kq2 ((allS (Or.inl (List.mem_of_getElem? (i := 0) rfl)) all0))
 have Z2 := ql Z0 Kq2.1
 have sz_b3 := ql (Keep.refl h0 [a0]).1 hp10
 refine qb st2 ?_
 show qG p e below _ (T2.setTop (mkF m 10 #[vR a0, vR a1, vR a2, vI 0] [(.ref b3)]))
 refine qb (fun _ k => XS.astoreN X2.here hx rfl (y 6 rfl) rfl rfl (l' := #[vR a0, vR a1, vR b3, vI 0]) rfl k) ?_
 show qG p e below _ (T2.setTop (mkF m 11 #[vR a0, vR a1, vR b3, vI 0] []))
 refine qb (fun _ k => XS.aloadN X2.here hx rfl (y 7 rfl) rfl rfl k) ?_
 refine qb (fun _ k => XS.iloadN X2.here hx rfl (y 8 rfl) rfl k) ?_
 refine qb (fun _ k => XS.aloadN X2.here hx rfl (y 9 rfl) rfl rfl k) ?_
 have F14 := (P_E_a1.keep Kq2)
 obtain ⟨T15, h15, X15, e15, W15, V15, st15⟩ := own_stR X2 hx hZ rfl F12 hp13 (j := (0 : Int32)) ⟨by decide, by decide⟩ (Ins.of_exa F14 (hwd 247 rfl)) (g := (mkF m 14 #[vR a0, vR a1, vR b3, vI 0] [(.ref a1), (.int 0), (.ref b3)])) rfl rfl (y 10 rfl)
 have K15 : Keep h0 h15 [a0] := K2.wr W15 (Or.inr sz_b3)
 have Z15 := ql Z2 (Keep.of_wr W15).1
 have N15 := Fr.snoc X15 N2 hp9
 refine qb st15 ?_
 show qG p e below _ (T15.setTop (mkF m 15 #[vR a0, vR a1, vR b3, vI 0] []))
 refine qb (fun _ k => XS.aloadN X15.here hx rfl (y 11 rfl) rfl rfl k) ?_
 refine qb (fun _ k => XS.iloadN X15.here hx rfl (y 12 rfl) rfl k) ?_
 refine qb (fun _ k => XS.iconst X15.here hx rfl (y 13 rfl) k) ?_
 refine qb (fun _ k => XS.iadd X15.here hx rfl (y 14 rfl) rfl k) ?_
 have F16 := (F5.wr W15)
 have F18 := (F11.wr W15)
 have nq17 := ne_exa F16 F18 (by decide)
 have F19 := (F8.other W15 (Or.inl nq17))
 obtain ⟨T20, h20, X20, e20, W20, st20⟩ := putF X15 hx hZ hown (host := "") (Or.inl (hwd 102 rfl)) Via.refl e15 F19 F16 (Or.inl (hwd 103 rfl)) (hwd 43 rfl) (ty := .int) (by decide) rfl rfl (g := (mkF m 19 #[vR a0, vR a1, vR b3, vI 0] [(.int 1), (.ref a0)])) rfl rfl (y 15 rfl)
 have Fw20 : Fld Z h20 a0 cAL "size" "I" (.int 1) := F19.same W20
 have K20 : Keep h0 h20 [a0] := K15.wr W20 (Or.inl (List.mem_of_getElem? (i := 0) rfl))
 have Z20 := ql Z15 (Keep.of_wr W20).1
 have N20 := Fr.snoc X20 N15 g_a0
 refine qb st20 ?_
 show qG p e below _ (T20.setTop (mkF m 22 #[vR a0, vR a1, vR b3, vI 0] []))
 have F21 := (F16.wr W20)
 have F22 := ((F6.other W15 (Or.inl nq17)).other W20 (Or.inr (slot_ne (Or.inl (hwd 62 rfl)) (Or.inl (hwd 103 rfl)) (by decide) (t := .int) (t' := .int) (by decide) (by decide))))
 have F23 := ((F7.other W15 (Or.inl nq17)).other W20 (Or.inr (slot_ne (Or.inl (hwd 65 rfl)) (Or.inl (hwd 103 rfl)) (by decide) (t := (.array (.object "java/lang/Object"))) (t' := .int) (by decide) (by decide))))
 have F24 := (F18.wr W20)
 have F25 := (V15.other W20 (Ne.symm nq17))
 exact own_ret0 X20 hx hrt (y 16 rfl) hlk e20 ⟨_, _, rfl, N20, K20, F21, F22, F23, Fw20, hp9, sz_b3, F24, F25, hp13⟩ (by decide) (by decide)
theorem pd_226 : parseMethodDescriptor "(Ljava/lang/Object;[Ljava/lang/Object;I)V" = some ⟨[(.object "java/lang/Object"), (.array (.object "java/lang/Object")), .int], none⟩ := by decide +kernel
theorem d29 : own_ds jdk_38_method_25_code [(0, .aload_n 0, 1), (1, .dup, 1), (2, .getfield 63, 3), (5, .iconst 1, 1), (6, .iadd, 1), (7, .putfield 63, 3), (10, .aload_n 0, 1), (11, .aload_n 1, 1), (12, .aload_n 0, 1), (13, .getfield 9, 3), (16, .aload_n 0, 1), (17, .getfield 48, 3), (20, .invokevirtual 131, 3), (23, .iconst 1, 1), (24, .ireturn, 1)] = true := by decide +kernel
theorem ef_add0 (m : MethodId) (a0 a1 : Addr) : entryFrame m #[(.ref a0), (.ref a1)] 2 = mkF m 0 #[vR a0, vR a1] [] := rfl
def Qadd0 (Z : State) (f_DE : Addr) (k_f_DE : ClassId) (fn_f_DE : Nat → Value) (mc_a0 : Int32) (a0 a1 : Addr) (h0 : Heap) (n0 : Nat) (v : Option Value) (h : Heap) (L : List Loc) : Prop := ∃ (b12 : Addr) (b13 : ClassId), v = some (.int 1) ∧ Fr n0 L ∧ Keep h0 h [a0] ∧ Exa Z h a0 "java/util/ArrayList" ∧ Fld Z h a0 "java/util/AbstractList" "modCount" "I" (.int (mc_a0 + (1 : Int32))) ∧ Fld Z h a0 cAL "elementData" "[Ljava/lang/Object;" (.ref b12) ∧ Fld Z h a0 cAL "size" "I" (.int 1) ∧ (n0 ≤ b12) ∧ (h0.size ≤ b12) ∧ Exa Z h b12 "[Ljava/lang/Object;" ∧ qA Z h b12 b13 (.object "java/lang/Object") (10 : Int32) (fun i => (qu (fun _ => Value.null) 0 (.ref a1)) i) ∧ (Ovr Z b13 "java/lang/Object")
theorem rmadd0 (l : Launch) (Z : State) (A0 : Array Value) (hw : ∀ d ∈ tables_1, d.before A0 Z = true) (ws : List Jvm.Cond) (f_DE : Addr) (k_f_DE : ClassId) (fn_f_DE : Nat → Value) (mc_a0 : Int32) (a0 a1 : Addr) (h0 : Heap) (n0 : Nat) (Z0 : n0 ≤ h0.size) (P_E_a0 : Exa Z h0 a0 "java/util/ArrayList") (P_F_a0_modCount : Fld Z h0 a0 "java/util/AbstractList" "modCount" "I" (.int mc_a0)) (P_F_a0_elementData : Fld Z h0 a0 cAL "elementData" "[Ljava/lang/Object;" (.ref f_DE)) (P_F_a0_size : Fld Z h0 a0 cAL "size" "I" (.int 0)) (P_E_a1 : Exa Z h0 a1 "com/example/libacross/libacross/format/Hit") (P_S_DE : Sta Z h0 cAL "DEFAULTCAPACITY_EMPTY_ELEMENTDATA" "[Ljava/lang/Object;" (.ref f_DE)) (P_V_f_DE : qA Z h0 f_DE k_f_DE (.object "java/lang/Object") (0 : Int32) (fun i => fn_f_DE i)) (g_a0 : n0 ≤ a0) :
  qM l Z (⟨"java/util/ArrayList", "add", "(Ljava/lang/Object;)Z"⟩ : MethodName) jdk_38_method_25_code 2 (some .boolean) ws ({ frames := 4, cells := 1, slots := 10, locals := 56 } : Room) #[(.ref a0), (.ref a1)] h0 (Qadd0 Z f_DE k_f_DE fn_f_DE mc_a0 a0 a1 h0 n0) 1 10 := qe d29 (plainFor_of_name pn_iArr) (fun m => ef_add0 m a0 a1) fun p e s m below meth c s₁ hx y hml hlk hown hnm X0 e0 hZ hrt => by
 have hwd := qw hw
 have N0 := Fr.nil n0
 show qG p e below _ (s₁.setTop (mkF m 0 #[vR a0, vR a1] []))
 refine qb (fun _ k => XS.aloadN X0.here hx rfl (y 0 rfl) rfl rfl k) ?_
 refine qb (fun _ k => XS.dup X0.here hx rfl (y 1 rfl) rfl rfl k) ?_
 obtain ⟨T1, X1, e1, st1⟩ := getF X0 hx hZ hown (host := "") (Or.inl (hwd 224 rfl)) (Via.of (hwd 225 rfl)) e0 P_F_a0_modCount (g := (mkF m 2 #[vR a0, vR a1] [(.ref a0), (.ref a0)])) rfl rfl (y 2 rfl)
 refine qb st1 ?_
 refine qb (fun _ k => XS.iconst X1.here hx rfl (y 3 rfl) k) ?_
 refine qb (fun _ k => XS.iadd X1.here hx rfl (y 4 rfl) rfl k) ?_
 obtain ⟨T2, h2, X2, e2, W2, st2⟩ := putF X1 hx hZ hown (host := "") (Or.inl (hwd 224 rfl)) (Via.of (hwd 225 rfl)) e1 P_F_a0_modCount P_E_a0 (Or.inl (hwd 62 rfl)) (hwd 43 rfl) (ty := .int) (by decide) rfl rfl (g := (mkF m 7 #[vR a0, vR a1] [(.int (mc_a0 + (1 : Int32))), (.ref a0)])) rfl rfl (y 5 rfl)
 have Fw2 : Fld Z h2 a0 "java/util/AbstractList" "modCount" "I" (.int (mc_a0 + (1 : Int32))) := P_F_a0_modCount.same W2
 have K2 : Keep h0 h2 [a0] := (Keep.refl h0 [a0]).wr W2 (Or.inl (List.mem_of_getElem? (i := 0) rfl))
 have Z2 := ql Z0 (Keep.of_wr W2).1
 have N2 := Fr.snoc X2 N0 g_a0
 refine qb st2 ?_
 show qG p e below _ (T2.setTop (mkF m 10 #[vR a0, vR a1] []))
 refine qb (fun _ k => XS.aloadN X2.here hx rfl (y 6 rfl) rfl rfl k) ?_
 refine qb (fun _ k => XS.aloadN X2.here hx rfl (y 7 rfl) rfl rfl k) ?_
 refine qb (fun _ k => XS.aloadN X2.here hx rfl (y 8 rfl) rfl rfl k) ?_
 have F3 := (P_F_a0_elementData.other W2 (Or.inr (slot_ne (Or.inl (hwd 65 rfl)) (Or.inl (hwd 62 rfl)) (by decide) (t := (.array (.object "java/lang/Object"))) (t' := .int) (by decide) (by decide))))
 obtain ⟨T4, X4, e4, st4⟩ := getF X2 hx hZ hown (host := "") (Or.inl (hwd 64 rfl)) Via.refl e2 F3 (g := (mkF m 13 #[vR a0, vR a1] [(.ref a0), (.ref a1), (.ref a0)])) rfl rfl (y 9 rfl)
 refine qb st4 ?_
 refine qb (fun _ k => XS.aloadN X4.here hx rfl (y 10 rfl) rfl rfl k) ?_
 have F5 := (P_F_a0_size.other W2 (Or.inr (slot_ne (Or.inl (hwd 103 rfl)) (Or.inl (hwd 62 rfl)) (by decide) (t := .int) (t' := .int) (by decide) (by decide))))
 obtain ⟨T6, X6, e6, st6⟩ := getF X4 hx hZ hown (host := "") (Or.inl (hwd 102 rfl)) Via.refl e4 F5 (g := (mkF m 17 #[vR a0, vR a1] [(.ref a0), (.ref f_DE), (.ref a1), (.ref a0)])) rfl rfl (y 11 rfl)
 refine qb st6 ?_
 have F7 := (P_E_a0.wr W2)
 have F8 := (P_E_a1.wr W2)
 have F9 := (P_S_DE.wr W2)
 have F10 := (P_V_f_DE.other W2 (Ne.symm (own_neArr P_E_a0 (hwd 43 rfl) P_V_f_DE)))
 obtain ⟨_, T11, Lc11, X11, hQ11, st11⟩ := own_cP X6 hx hZ hown hml (rma3_0 l Z A0 hw [] k_f_DE fn_f_DE (mc_a0 + (1 : Int32)) a0 a1 f_DE h2 n0 Z2 F7 Fw2 F3 F5 F8 F9 F10 g_a0) (hwd 226 rfl) (hwd 227 rfl) (hwd 44 rfl) (hwd 230 rfl) (by decide) pd_226 e6 (hwd 228 rfl) (own_selPriv hZ (hwd 43 rfl) (hwd 228 rfl) (hwd 227 rfl) (by decide)) F7 (g := (mkF m 20 #[vR a0, vR a1] [(.int 0), (.ref f_DE), (.ref a1), (.ref a0)])) (rest := []) rfl rfl rfl rfl (y 12 rfl) rfl
 obtain ⟨b12, b13, rfl, Nq11, Kq11, F14, F15, F16, F17, hp18, hp19, F20, F21, hp22⟩ := hQ11
 have N11 := Fr.app N2 Nq11
 have K11 : Keep h0 T11.heap [a0] := K2.trans Kq11 ((allS (Or.inl (List.mem_of_getElem? (i := 0) rfl)) all0))
 have Z11 := ql Z2 Kq11.1
 have sz_b12 := ql K2.1 hp19
 refine qb st11 ?_
 show qG p e below _ (T11.setTop (mkF m 23 #[vR a0, vR a1] []))
 refine qb (fun _ k => XS.iconst X11.here hx rfl (y 13 rfl) k) ?_
 exact own_retN X11 hx (t := .boolean) hrt (by simp) (y 14 rfl) hlk rfl ⟨_, _, rfl, N11, K11, F14, F15, F16, F17, hp18, sz_b12, F20, F21, hp22⟩ (by decide) (by decide)
theorem ef_a3_s (m : MethodId) (a0 a1 a2 : Addr) (p3 : Int32) : entryFrame m #[(.ref a0), (.ref a1), (.ref a2), (.int p3)] 4 = mkF m 0 #[vR a0, vR a1, vR a2, vI p3] [] := rfl
def Qa3_s (Z : State) (k_a2 : ClassId) (fn_a2 : Nat → Value) (mc_a0 sz_a0 : Int32) (a0 a1 a2 : Addr) (p3 : Int32) (h0 : Heap) (n0 : Nat) (v : Option Value) (h : Heap) (L : List Loc) : Prop := v = none ∧ Fr n0 L ∧ Keep h0 h [a2, a0] ∧ qA Z h a2 k_a2 (.object "java/lang/Object") (10 : Int32) (fun i => (qu fn_a2 (p3).toNatClampNeg (.ref a1)) i) ∧ Exa Z h a0 "java/util/ArrayList" ∧ Fld Z h a0 "java/util/AbstractList" "modCount" "I" (.int mc_a0) ∧ Fld Z h a0 cAL "elementData" "[Ljava/lang/Object;" (.ref a2) ∧ Fld Z h a0 cAL "size" "I" (.int (p3 + (1 : Int32)))
theorem rma3_s (l : Launch) (Z : State) (A0 : Array Value) (hw : ∀ d ∈ tables_1, d.before A0 Z = true) (ws : List Jvm.Cond) (k_a2 : ClassId) (fn_a2 : Nat → Value) (mc_a0 sz_a0 : Int32) (a0 a1 a2 : Addr) (p3 : Int32) (h0 : Heap) (n0 : Nat) (Z0 : n0 ≤ h0.size) (P_E_a0 : Exa Z h0 a0 "java/util/ArrayList") (P_F_a0_modCount : Fld Z h0 a0 "java/util/AbstractList" "modCount" "I" (.int mc_a0)) (P_F_a0_elementData : Fld Z h0 a0 cAL "elementData" "[Ljava/lang/Object;" (.ref a2)) (P_F_a0_size : Fld Z h0 a0 cAL "size" "I" (.int sz_a0)) (P_E_a1 : Exa Z h0 a1 "com/example/libacross/libacross/format/Hit") (P_V_a2 : qA Z h0 a2 k_a2 (.object "java/lang/Object") (10 : Int32) (fun i => fn_a2 i)) (hO_k_a2 : Ovr Z k_a2 "java/lang/Object") (hne : ¬ (p3 = (10 : Int32))) (hib : (¬ p3 < 0) ∧ p3 < (10 : Int32)) (g_a2 : n0 ≤ a2) (g_a0 : n0 ≤ a0) :
  qM l Z (⟨"java/util/ArrayList", "add", "(Ljava/lang/Object;[Ljava/lang/Object;I)V"⟩ : MethodName) jdk_38_method_24_code 4 none ws ({ frames := 0, cells := 0, slots := 0, locals := 0 } : Room) #[(.ref a0), (.ref a1), (.ref a2), (.int p3)] h0 (Qa3_s Z k_a2 fn_a2 mc_a0 sz_a0 a0 a1 a2 p3 h0 n0) 0 0 := qe d30 (plainFor_of_name pn_iArr) (fun m => ef_a3_s m a0 a1 a2 p3) fun p e s m below meth c s₁ hx y hml hlk hown hnm X0 e0 hZ hrt => by
 have hwd := qw hw
 have N0 := Fr.nil n0
 show qG p e below _ (s₁.setTop (mkF m 0 #[vR a0, vR a1, vR a2, vI p3] []))
 refine qb (fun _ k => XS.iloadN X0.here hx rfl (y 0 rfl) rfl k) ?_
 refine qb (fun _ k => XS.aloadN X0.here hx rfl (y 1 rfl) rfl rfl k) ?_
 obtain ⟨cl1, Ar1, qq1, S1, M1, H1, G1⟩ := id P_V_a2
 refine qb (fun t k => X0.arraylength hx (by rw [e0]; exact Ar1.1) (State.isArrayOf_alike hZ.alike Ar1.2.1) (g := (mkF m 2 #[vR a0, vR a1, vR a2, vI p3] [(.ref a2), (.int p3)])) rfl rfl (y 2 rfl) _ k) ?_
 rw [len_of S1 M1]
 show qG p e below _ (s₁.setTop (mkF m 3 #[vR a0, vR a1, vR a2, vI p3] [(.int 10), (.int p3)]))
 refine qb (fun _ k => XS.icmpYes X0.here hx rfl (pc0 := 3) (pc' := 11) rfl (y 3 rfl) rfl (feq hne).2 (by decide) (by decide) k) ?_
 show qG p e below _ (s₁.setTop (mkF m 11 #[vR a0, vR a1, vR a2, vI p3] []))
 refine qb (fun _ k => XS.aloadN X0.here hx rfl (y 7 rfl) rfl rfl k) ?_
 refine qb (fun _ k => XS.iloadN X0.here hx rfl (y 8 rfl) rfl k) ?_
 refine qb (fun _ k => XS.aloadN X0.here hx rfl (y 9 rfl) rfl rfl k) ?_
 obtain ⟨T2, h2, X2, e2, W2, V2, st2⟩ := own_stR X0 hx hZ e0 P_V_a2 hO_k_a2 (j := p3) hib (Ins.of_exa P_E_a1 (hwd 247 rfl)) (g := (mkF m 14 #[vR a0, vR a1, vR a2, vI p3] [(.ref a1), (.int p3), (.ref a2)])) rfl rfl (y 10 rfl)
 have K2 : Keep h0 h2 [a2, a0] := (Keep.refl h0 [a2, a0]).wr W2 (Or.inl (List.mem_of_getElem? (i := 0) rfl))
 have Z2 := ql Z0 (Keep.of_wr W2).1
 have N2 := Fr.snoc X2 N0 g_a2
 refine qb st2 ?_
 show qG p e below _ (T2.setTop (mkF m 15 #[vR a0, vR a1, vR a2, vI p3] []))
 refine qb (fun _ k => XS.aloadN X2.here hx rfl (y 11 rfl) rfl rfl k) ?_
 refine qb (fun _ k => XS.iloadN X2.here hx rfl (y 12 rfl) rfl k) ?_
 refine qb (fun _ k => XS.iconst X2.here hx rfl (y 13 rfl) k) ?_
 refine qb (fun _ k => XS.iadd X2.here hx rfl (y 14 rfl) rfl k) ?_
 have F3 := (P_E_a0.wr W2)
 have F4 := (P_F_a0_size.other W2 (Or.inl (own_neArr (P_E_a0.wr W2) (hwd 43 rfl) V2)))
 obtain ⟨T5, h5, X5, e5, W5, st5⟩ := putF X2 hx hZ hown (host := "") (Or.inl (hwd 102 rfl)) Via.refl e2 F4 F3 (Or.inl (hwd 103 rfl)) (hwd 43 rfl) (ty := .int) (by decide) rfl rfl (g := (mkF m 19 #[vR a0, vR a1, vR a2, vI p3] [(.int (p3 + (1 : Int32))), (.ref a0)])) rfl rfl (y 15 rfl)
 have Fw5 : Fld Z h5 a0 cAL "size" "I" (.int (p3 + (1 : Int32))) := F4.same W5
 have K5 : Keep h0 h5 [a2, a0] := K2.wr W5 (Or.inl (List.mem_of_getElem? (i := 1) rfl))
 have Z5 := ql Z2 (Keep.of_wr W5).1
 have N5 := Fr.snoc X5 N2 g_a0
 refine qb st5 ?_
 show qG p e below _ (T5.setTop (mkF m 22 #[vR a0, vR a1, vR a2, vI p3] []))
 have F6 := (V2.other W5 (Ne.symm (own_neArr (P_E_a0.wr W2) (hwd 43 rfl) V2)))
 have F7 := (F3.wr W5)
 have F8 := ((P_F_a0_modCount.other W2 (Or.inl (own_neArr ((P_E_a0.wr W2).wr W5) (hwd 43 rfl) F6))).other W5 (Or.inr (slot_ne (Or.inl (hwd 62 rfl)) (Or.inl (hwd 103 rfl)) (by decide) (t := .int) (t' := .int) (by decide) (by decide))))
 have F9 := ((P_F_a0_elementData.other W2 (Or.inl (own_neArr ((P_E_a0.wr W2).wr W5) (hwd 43 rfl) F6))).other W5 (Or.inr (slot_ne (Or.inl (hwd 65 rfl)) (Or.inl (hwd 103 rfl)) (by decide) (t := (.array (.object "java/lang/Object"))) (t' := .int) (by decide) (by decide))))
 exact own_ret0 X5 hx hrt (y 16 rfl) hlk e5 ⟨rfl, N5, K5, F6, F7, F8, F9, Fw5⟩ (by decide) (by decide)
theorem ef_adds (m : MethodId) (a0 a1 : Addr) : entryFrame m #[(.ref a0), (.ref a1)] 2 = mkF m 0 #[vR a0, vR a1] [] := rfl
def Qadds (Z : State) (t_a0 : Addr) (k_t_a0 : ClassId) (fn_t_a0 : Nat → Value) (mc_a0 sz_a0 : Int32) (a0 a1 : Addr) (h0 : Heap) (n0 : Nat) (v : Option Value) (h : Heap) (L : List Loc) : Prop := v = some (.int 1) ∧ Fr n0 L ∧ Keep h0 h [a0, t_a0] ∧ Exa Z h a0 "java/util/ArrayList" ∧ Fld Z h a0 "java/util/AbstractList" "modCount" "I" (.int (mc_a0 + (1 : Int32))) ∧ Fld Z h a0 cAL "elementData" "[Ljava/lang/Object;" (.ref t_a0) ∧ Fld Z h a0 cAL "size" "I" (.int (sz_a0 + (1 : Int32))) ∧ qA Z h t_a0 k_t_a0 (.object "java/lang/Object") (10 : Int32) (fun i => (qu fn_t_a0 (sz_a0).toNatClampNeg (.ref a1)) i)
theorem rmadds (l : Launch) (Z : State) (A0 : Array Value) (hw : ∀ d ∈ tables_1, d.before A0 Z = true) (ws : List Jvm.Cond) (t_a0 : Addr) (k_t_a0 : ClassId) (fn_t_a0 : Nat → Value) (mc_a0 sz_a0 : Int32) (a0 a1 : Addr) (h0 : Heap) (n0 : Nat) (Z0 : n0 ≤ h0.size) (P_E_a0 : Exa Z h0 a0 "java/util/ArrayList") (P_F_a0_modCount : Fld Z h0 a0 "java/util/AbstractList" "modCount" "I" (.int mc_a0)) (P_F_a0_elementData : Fld Z h0 a0 cAL "elementData" "[Ljava/lang/Object;" (.ref t_a0)) (P_F_a0_size : Fld Z h0 a0 cAL "size" "I" (.int sz_a0)) (P_E_a1 : Exa Z h0 a1 "com/example/libacross/libacross/format/Hit") (P_V_t_a0 : qA Z h0 t_a0 k_t_a0 (.object "java/lang/Object") (10 : Int32) (fun i => fn_t_a0 i)) (hO_k_a2 : Ovr Z k_t_a0 "java/lang/Object") (hne : ¬ (sz_a0 = (10 : Int32))) (hib : (¬ sz_a0 < 0) ∧ sz_a0 < (10 : Int32)) (g_a0 : n0 ≤ a0) (g_t_a0 : n0 ≤ t_a0) :
  qM l Z (⟨"java/util/ArrayList", "add", "(Ljava/lang/Object;)Z"⟩ : MethodName) jdk_38_method_25_code 2 (some .boolean) ws ({ frames := 1, cells := 0, slots := 0, locals := 15 } : Room) #[(.ref a0), (.ref a1)] h0 (Qadds Z t_a0 k_t_a0 fn_t_a0 mc_a0 sz_a0 a0 a1 h0 n0) 0 0 := qe d29 (plainFor_of_name pn_iArr) (fun m => ef_adds m a0 a1) fun p e s m below meth c s₁ hx y hml hlk hown hnm X0 e0 hZ hrt => by
 have hwd := qw hw
 have N0 := Fr.nil n0
 show qG p e below _ (s₁.setTop (mkF m 0 #[vR a0, vR a1] []))
 refine qb (fun _ k => XS.aloadN X0.here hx rfl (y 0 rfl) rfl rfl k) ?_
 refine qb (fun _ k => XS.dup X0.here hx rfl (y 1 rfl) rfl rfl k) ?_
 obtain ⟨T1, X1, e1, st1⟩ := getF X0 hx hZ hown (host := "") (Or.inl (hwd 224 rfl)) (Via.of (hwd 225 rfl)) e0 P_F_a0_modCount (g := (mkF m 2 #[vR a0, vR a1] [(.ref a0), (.ref a0)])) rfl rfl (y 2 rfl)
 refine qb st1 ?_
 refine qb (fun _ k => XS.iconst X1.here hx rfl (y 3 rfl) k) ?_
 refine qb (fun _ k => XS.iadd X1.here hx rfl (y 4 rfl) rfl k) ?_
 obtain ⟨T2, h2, X2, e2, W2, st2⟩ := putF X1 hx hZ hown (host := "") (Or.inl (hwd 224 rfl)) (Via.of (hwd 225 rfl)) e1 P_F_a0_modCount P_E_a0 (Or.inl (hwd 62 rfl)) (hwd 43 rfl) (ty := .int) (by decide) rfl rfl (g := (mkF m 7 #[vR a0, vR a1] [(.int (mc_a0 + (1 : Int32))), (.ref a0)])) rfl rfl (y 5 rfl)
 have Fw2 : Fld Z h2 a0 "java/util/AbstractList" "modCount" "I" (.int (mc_a0 + (1 : Int32))) := P_F_a0_modCount.same W2
 have K2 : Keep h0 h2 [a0, t_a0] := (Keep.refl h0 [a0, t_a0]).wr W2 (Or.inl (List.mem_of_getElem? (i := 0) rfl))
 have Z2 := ql Z0 (Keep.of_wr W2).1
 have N2 := Fr.snoc X2 N0 g_a0
 refine qb st2 ?_
 show qG p e below _ (T2.setTop (mkF m 10 #[vR a0, vR a1] []))
 refine qb (fun _ k => XS.aloadN X2.here hx rfl (y 6 rfl) rfl rfl k) ?_
 refine qb (fun _ k => XS.aloadN X2.here hx rfl (y 7 rfl) rfl rfl k) ?_
 refine qb (fun _ k => XS.aloadN X2.here hx rfl (y 8 rfl) rfl rfl k) ?_
 have F3 := (P_F_a0_elementData.other W2 (Or.inr (slot_ne (Or.inl (hwd 65 rfl)) (Or.inl (hwd 62 rfl)) (by decide) (t := (.array (.object "java/lang/Object"))) (t' := .int) (by decide) (by decide))))
 obtain ⟨T4, X4, e4, st4⟩ := getF X2 hx hZ hown (host := "") (Or.inl (hwd 64 rfl)) Via.refl e2 F3 (g := (mkF m 13 #[vR a0, vR a1] [(.ref a0), (.ref a1), (.ref a0)])) rfl rfl (y 9 rfl)
 refine qb st4 ?_
 refine qb (fun _ k => XS.aloadN X4.here hx rfl (y 10 rfl) rfl rfl k) ?_
 have F5 := (P_F_a0_size.other W2 (Or.inr (slot_ne (Or.inl (hwd 103 rfl)) (Or.inl (hwd 62 rfl)) (by decide) (t := .int) (t' := .int) (by decide) (by decide))))
 obtain ⟨T6, X6, e6, st6⟩ := getF X4 hx hZ hown (host := "") (Or.inl (hwd 102 rfl)) Via.refl e4 F5 (g := (mkF m 17 #[vR a0, vR a1] [(.ref a0), (.ref t_a0), (.ref a1), (.ref a0)])) rfl rfl (y 11 rfl)
 refine qb st6 ?_
 have F7 := (P_E_a0.wr W2)
 have F8 := (P_E_a1.wr W2)
 have F9 := (P_V_t_a0.other W2 (Ne.symm (own_neArr P_E_a0 (hwd 43 rfl) P_V_t_a0)))
 obtain ⟨_, T10, Lc10, X10, hQ10, st10⟩ := own_cP X6 hx hZ hown hml (rma3_s l Z A0 hw [] k_t_a0 fn_t_a0 (mc_a0 + (1 : Int32)) sz_a0 a0 a1 t_a0 sz_a0 h2 n0 Z2 F7 Fw2 F3 F5 F8 F9 hO_k_a2 hne hib g_t_a0 g_a0) (hwd 226 rfl) (hwd 227 rfl) (hwd 44 rfl) (hwd 230 rfl) (by decide) pd_226 e6 (hwd 228 rfl) (own_selPriv hZ (hwd 43 rfl) (hwd 228 rfl) (hwd 227 rfl) (by decide)) F7 (g := (mkF m 20 #[vR a0, vR a1] [(.int sz_a0), (.ref t_a0), (.ref a1), (.ref a0)])) (rest := []) rfl rfl rfl rfl (y 12 rfl) rfl
 obtain ⟨rfl, Nq10, Kq10, F11, F12, F13, F14, F15⟩ := hQ10
 have N10 := Fr.app N2 Nq10
 have K10 : Keep h0 T10.heap [a0, t_a0] := K2.trans Kq10 ((allS (Or.inl (List.mem_of_getElem? (i := 1) rfl)) (allS (Or.inl (List.mem_of_getElem? (i := 0) rfl)) all0)))
 have Z10 := ql Z2 Kq10.1
 refine qb st10 ?_
 show qG p e below _ (T10.setTop (mkF m 23 #[vR a0, vR a1] []))
 refine qb (fun _ k => XS.iconst X10.here hx rfl (y 13 rfl) k) ?_
 exact own_retN X10 hx (t := .boolean) hrt (by simp) (y 14 rfl) hlk rfl ⟨rfl, N10, K10, F12, F13, F14, F15, F11⟩ (by decide) (by decide)
theorem d47 : own_ds jdk_42_method_154_code [(0, .getstatic 38, 3), (3, .ifCond .eq 14, 3), (6, .aload_n 0, 1), (7, .getfield 15, 3), (10, .ifCond .ne 7, 3), (13, .iconst 1, 1), (14, .goto 4, 3), (18, .ireturn, 1)] = true := by decide +kernel
theorem ef_isl (m : MethodId) (a0 : Addr) : entryFrame m #[(.ref a0)] 1 = mkF m 0 #[vR a0] [] := rfl
def Qisl (Z : State) (f_CS : Int32) (a0 : Addr) (h0 : Heap) (n0 : Nat) (v : Option Value) (h : Heap) (L : List Loc) : Prop := v = some (.int 1) ∧ Fr n0 L ∧ h = h0
theorem rmisl (l : Launch) (Z : State) (A0 : Array Value) (hw : ∀ d ∈ tables_1, d.before A0 Z = true) (ws : List Jvm.Cond) (f_CS : Int32) (a0 : Addr) (h0 : Heap) (n0 : Nat) (Z0 : n0 ≤ h0.size) (P_E_a0 : Exa Z h0 a0 "java/lang/String") (P_F_a0_coder : Fld Z h0 a0 cST "coder" "B" (.int 0)) (P_S_CS : Sta Z h0 cST "COMPACT_STRINGS" "Z" (.int f_CS)) (hn_CS : ¬ (f_CS = (0 : Int32))) :
  qM l Z (⟨"java/lang/String", "isLatin1", "()Z"⟩ : MethodName) jdk_42_method_154_code 1 (some .boolean) ws ({ frames := 0, cells := 0, slots := 0, locals := 0 } : Room) #[(.ref a0)] h0 (Qisl Z f_CS a0 h0 n0) 0 0 := qe d47 (plainFor_of_name pn_sbbL) (fun m => ef_isl m a0) fun p e s m below meth c s₁ hx y hml hlk hown hnm X0 e0 hZ hrt => by
 have hwd := qw hw
 have N0 := Fr.nil n0
 show qG p e below _ (s₁.setTop (mkF m 0 #[vR a0] []))
 obtain ⟨T1, X1, e1, st1⟩ := getS2 X0 hx hZ hown (host := "") (Or.inl (hwd 4 rfl)) Via.refl e0 P_S_CS (g := (mkF m 0 #[vR a0] [])) rfl (y 0 rfl)
 refine qb st1 ?_
 refine qb (fun _ k => XS.ifNo X1.here hx rfl (y 1 rfl) rfl ((if0 _ _).trans (feq hn_CS).1) k) ?_
 show qG p e below _ (T1.setTop (mkF m 6 #[vR a0] []))
 refine qb (fun _ k => XS.aloadN X1.here hx rfl (y 2 rfl) rfl rfl k) ?_
 obtain ⟨T2, X2, e2, st2⟩ := getF X1 hx hZ hown (host := "") (Or.inl (hwd 24 rfl)) Via.refl e1 P_F_a0_coder (g := (mkF m 7 #[vR a0] [(.ref a0)])) rfl rfl (y 3 rfl)
 refine qb st2 ?_
 refine qb (fun _ k => XS.ifNo X2.here hx rfl (y 4 rfl) rfl ((if0 _ _).trans (teq (by decide : (0 : Int32) = (0 : Int32))).2) k) ?_
 show qG p e below _ (T2.setTop (mkF m 13 #[vR a0] []))
 refine qb (fun _ k => XS.iconst X2.here hx rfl (y 5 rfl) k) ?_
 refine qb (fun _ k => XS.goto X2.here hx rfl (pc0 := 14) (pc' := 18) rfl (y 6 rfl) (by decide) (by decide) k) ?_
 show qG p e below _ (T2.setTop (mkF m 18 #[vR a0] [(.int 1)]))
 exact own_retN X2 hx (t := .boolean) hrt (by simp) (y 7 rfl) hlk e2 ⟨rfl, N0, rfl⟩ (by decide) (by decide)
theorem d48 : own_ds jdk_43_method_21_code [(0, .aload_n 0, 1), (1, .arraylength, 1), (2, .lookupswitch 40 #[(0, 26), (1, 30)], 26), (32, .aload_n 0, 1), (33, .iconst 0, 1), (34, .baload, 1), (35, .sipush 255, 3), (38, .iand, 1), (39, .goto 12, 3), (51, .ireturn, 1)] = true := by decide +kernel
theorem ef_lhc (m : MethodId) (a0 : Addr) : entryFrame m #[(.ref a0)] 1 = mkF m 0 #[vR a0] [] := rfl
def Qlhc (Z : State) (k_a0 : ClassId) (fn_a0 : Nat → Int32) (a0 : Addr) (h0 : Heap) (n0 : Nat) (v : Option Value) (h : Heap) (L : List Loc) : Prop := v = some (.int ((fn_a0 0) &&& (255 : Int32))) ∧ Fr n0 L ∧ h = h0
theorem rmlhc (l : Launch) (Z : State) (A0 : Array Value) (hw : ∀ d ∈ tables_1, d.before A0 Z = true) (ws : List Jvm.Cond) (k_a0 : ClassId) (fn_a0 : Nat → Int32) (a0 : Addr) (h0 : Heap) (n0 : Nat) (Z0 : n0 ≤ h0.size) (P_V_a0 : qA Z h0 a0 k_a0 .byte (1 : Int32) (fun i => .int (fn_a0 i))) :
  qM l Z (⟨"java/lang/StringLatin1", "hashCode", "([B)I"⟩ : MethodName) jdk_43_method_21_code 1 (some .int) ws ({ frames := 0, cells := 0, slots := 0, locals := 0 } : Room) #[(.ref a0)] h0 (Qlhc Z k_a0 fn_a0 a0 h0 n0) 0 0 := qe d48 (plainFor_of_name pn_l1tb) (fun m => ef_lhc m a0) fun p e s m below meth c s₁ hx Y hml hlk hown hnm X0 e0 hZ hrt => by
 have hwd := qw hw
 have N0 := Fr.nil n0
 show qG p e below _ (s₁.setTop (mkF m 0 #[vR a0] []))
 refine qb (fun _ k => XS.aloadN X0.here hx rfl (Y 0 rfl) rfl rfl k) ?_
 obtain ⟨cl1, Ar1, qq1, S1, M1, H1, G1⟩ := id P_V_a0
 refine qb (fun t k => X0.arraylength hx (by rw [e0]; exact Ar1.1) (State.isArrayOf_alike hZ.alike Ar1.2.1) (g := (mkF m 1 #[vR a0] [(.ref a0)])) rfl rfl (Y 1 rfl) _ k) ?_
 rw [len_of S1 M1]
 show qG p e below _ (s₁.setTop (mkF m 2 #[vR a0] [(.int 1)]))
 refine qb (fun t q => X0.lookupswitchHit hx (g := (mkF m 2 #[vR a0] [(.int 1)])) rfl (k := (1 : Int32)) rfl (Y 2 rfl) (by decide) (a := 1) (off := 30) rfl (show (0 : Int) ≤ (2 : Int) + 30 by decide) t q) ?_
 show qG p e below _ (s₁.setTop (mkF m 32 #[vR a0] []))
 refine qb (fun _ k => XS.aloadN X0.here hx rfl (Y 3 rfl) rfl rfl k) ?_
 refine qb (fun _ k => XS.iconst X0.here hx rfl (Y 4 rfl) k) ?_
 obtain ⟨cl2, Ar2, qq2, S2, M2, H2, G2⟩ := id P_V_a0
 have hin2 : ¬ ((0 : Int32) < 0 ∨ cl2.slots.size ≤ ((0 : Int32)).toNatClampNeg) := inb_of S2 ⟨by decide, by decide⟩
 refine qb (fun t k => X0.baloadBytes hx (j := (0 : Int32)) (v := (.int (fn_a0 0))) (by rw [e0]; exact Ar2.1) (State.isArrayOf_alike hZ.alike Ar2.2.1) Ar2.2.2 hin2 (H2 _ (Nat.lt_of_not_le fun y => hin2 (Or.inr y))) (g := (mkF m 34 #[vR a0] [(.int 0), (.ref a0)])) rfl rfl (Y 5 rfl) _ k) ?_
 refine qb (fun _ k => XS.sipush X0.here hx rfl (Y 6 rfl) k) ?_
 refine qb (fun _ k => XS.iand X0.here hx rfl (Y 7 rfl) rfl k) ?_
 refine qb (fun _ k => XS.goto X0.here hx rfl (pc0 := 39) (pc' := 51) rfl (Y 8 rfl) (by decide) (by decide) k) ?_
 show qG p e below _ (s₁.setTop (mkF m 51 #[vR a0] [(.int ((fn_a0 0) &&& (255 : Int32)))]))
 exact own_retI X0 hx hrt (Y 9 rfl) hlk e0 ⟨rfl, N0, rfl⟩ (by decide) (by decide)
theorem pd_177 : parseMethodDescriptor "()Z" = some ⟨[], some .boolean⟩ := by decide +kernel
theorem pd_334 : parseMethodDescriptor "([B)I" = some ⟨[(.array .byte)], some .int⟩ := by decide +kernel
theorem d46 : own_ds jdk_42_method_78_code [(0, .aload_n 0, 1), (1, .getfield 19, 3), (4, .istore_n 1, 1), (5, .iload_n 1, 1), (6, .ifCond .ne 52, 3), (9, .aload_n 0, 1), (10, .getfield 23, 3), (13, .ifCond .ne 45, 3), (16, .aload_n 0, 1), (17, .invokevirtual 492, 3), (20, .ifCond .eq 13, 3), (23, .aload_n 0, 1), (24, .getfield 9, 3), (27, .invokestatic 628, 3), (30, .goto 10, 3), (40, .istore_n 1, 1), (41, .iload_n 1, 1), (42, .ifCond .ne 11, 3), (53, .aload_n 0, 1), (54, .iload_n 1, 1), (55, .putfield 19, 3), (58, .iload_n 1, 1), (59, .ireturn, 1)] = true := by decide +kernel
theorem ef_shc (m : MethodId) (a0 : Addr) : entryFrame m #[(.ref a0)] 2 = mkF m 0 #[vR a0, .unset] [] := rfl
def Qshc (Z : State) (t_a0 : Addr) (k_t_a0 : ClassId) (fn_t_a0 : Nat → Int32) (hv_a0 f_CS : Int32) (a0 : Addr) (h0 : Heap) (n0 : Nat) (v : Option Value) (h : Heap) (L : List Loc) : Prop := v = some (.int ((fn_t_a0 0) &&& (255 : Int32))) ∧ Fr n0 L ∧ Keep h0 h [a0] ∧ Exa Z h a0 "java/lang/String" ∧ Fld Z h a0 cST "coder" "B" (.int 0) ∧ Fld Z h a0 cST "value" "[B" (.ref t_a0) ∧ Fld Z h a0 cST "hash" "I" (.int ((fn_t_a0 0) &&& (255 : Int32))) ∧ Fld Z h a0 cST "hashIsZero" "Z" (.int 0) ∧ ((True) ∨ (True))
theorem rmshc (l : Launch) (Z : State) (A0 : Array Value) (hw : ∀ d ∈ tables_1, d.before A0 Z = true) (ws : List Jvm.Cond) (t_a0 : Addr) (k_t_a0 : ClassId) (fn_t_a0 : Nat → Int32) (hv_a0 f_CS : Int32) (a0 : Addr) (h0 : Heap) (n0 : Nat) (Z0 : n0 ≤ h0.size) (P_E_a0 : Exa Z h0 a0 "java/lang/String") (P_F_a0_coder : Fld Z h0 a0 cST "coder" "B" (.int 0)) (P_F_a0_value : Fld Z h0 a0 cST "value" "[B" (.ref t_a0)) (P_F_a0_hash : Fld Z h0 a0 cST "hash" "I" (.int hv_a0)) (P_F_a0_hashIsZero : Fld Z h0 a0 cST "hashIsZero" "Z" (.int 0)) (P_V_t_a0 : qA Z h0 t_a0 k_t_a0 .byte (1 : Int32) (fun i => .int (fn_t_a0 i))) (hh_a0 : hv_a0 = (0 : Int32) ∨ hv_a0 = ((fn_t_a0 0) &&& (255 : Int32))) (hc_a0 : ¬ (((fn_t_a0 0) &&& (255 : Int32)) = (0 : Int32))) (P_S_CS : Sta Z h0 cST "COMPACT_STRINGS" "Z" (.int f_CS)) (hn_CS : ¬ (f_CS = (0 : Int32))) (g_a0 : n0 ≤ a0) :
  qM l Z (⟨"java/lang/String", "hashCode", "()I"⟩ : MethodName) jdk_42_method_78_code 2 (some .int) ws ({ frames := 1, cells := 0, slots := 0, locals := 12 } : Room) #[(.ref a0)] h0 (Qshc Z t_a0 k_t_a0 fn_t_a0 hv_a0 f_CS a0 h0 n0) 0 0 := qe d46 (plainFor_of_name pn_sbbL) (fun m => ef_shc m a0) fun p e s m below meth c s₁ hx y hml hlk hown hnm X0 e0 hZ hrt => by
 have hwd := qw hw
 have N0 := Fr.nil n0
 show qG p e below _ (s₁.setTop (mkF m 0 #[vR a0, .unset] []))
 rcases hh_a0 with rfl | rfl
 ·skip
  show qG p e below _ (s₁.setTop (mkF m 0 #[vR a0, .unset] []))
  refine qb (fun _ k => XS.aloadN X0.here hx rfl (y 0 rfl) rfl rfl k) ?_
  obtain ⟨T1, X1, e1, st1⟩ := getF X0 hx hZ hown (host := "") (Or.inl (hwd 325 rfl)) Via.refl e0 P_F_a0_hash (g := (mkF m 1 #[vR a0, .unset] [(.ref a0)])) rfl rfl (y 1 rfl)
  refine qb st1 ?_
  refine qb (fun _ k => XS.istoreN X1.here hx rfl (y 2 rfl) rfl (l' := #[vR a0, vI 0]) rfl k) ?_
  show qG p e below _ (T1.setTop (mkF m 5 #[vR a0, vI 0] []))
  refine qb (fun _ k => XS.iloadN X1.here hx rfl (y 3 rfl) rfl k) ?_
  refine qb (fun _ k => XS.ifNo X1.here hx rfl (y 4 rfl) rfl ((if0 _ _).trans (teq (by decide : (0 : Int32) = (0 : Int32))).2) k) ?_
  show qG p e below _ (T1.setTop (mkF m 9 #[vR a0, vI 0] []))
  refine qb (fun _ k => XS.aloadN X1.here hx rfl (y 5 rfl) rfl rfl k) ?_
  obtain ⟨T2, X2, e2, st2⟩ := getF X1 hx hZ hown (host := "") (Or.inl (hwd 327 rfl)) Via.refl e1 P_F_a0_hashIsZero (g := (mkF m 10 #[vR a0, vI 0] [(.ref a0)])) rfl rfl (y 6 rfl)
  refine qb st2 ?_
  refine qb (fun _ k => XS.ifNo X2.here hx rfl (y 7 rfl) rfl ((if0 _ _).trans (teq (by decide : (0 : Int32) = (0 : Int32))).2) k) ?_
  show qG p e below _ (T2.setTop (mkF m 16 #[vR a0, vI 0] []))
  refine qb (fun _ k => XS.aloadN X2.here hx rfl (y 8 rfl) rfl rfl k) ?_
  obtain ⟨_, T3, Lc3, X3, hQ3, st3⟩ := own_cV X2 hx hZ hown hml (rmisl l Z A0 hw [] f_CS a0 h0 n0 Z0 P_E_a0 P_F_a0_coder P_S_CS hn_CS) (hwd 329 rfl) (hwd 331 rfl) (hwd 2 rfl) (hwd 333 rfl) (by decide) pd_177 e2 (hwd 330 rfl) (hwd 332 rfl) P_E_a0 (g := (mkF m 17 #[vR a0, vI 0] [(.ref a0)])) (rest := []) rfl rfl rfl rfl (y 9 rfl) rfl
  obtain ⟨rfl, Nq3, eq3⟩ := hQ3
  have N3 := Fr.app N0 Nq3
  refine qb st3 ?_
  show qG p e below _ (T3.setTop (mkF m 20 #[vR a0, vI 0] [(.int 1)]))
  refine qb (fun _ k => XS.ifNo X3.here hx rfl (y 10 rfl) rfl ((if0 _ _).trans (feq (by decide : ¬ ((1 : Int32) = (0 : Int32)))).1) k) ?_
  show qG p e below _ (T3.setTop (mkF m 23 #[vR a0, vI 0] []))
  refine qb (fun _ k => XS.aloadN X3.here hx rfl (y 11 rfl) rfl rfl k) ?_
  obtain ⟨T4, X4, e4, st4⟩ := getF X3 hx hZ hown (host := "") (Or.inl (hwd 22 rfl)) Via.refl eq3 P_F_a0_value (g := (mkF m 24 #[vR a0, vI 0] [(.ref a0)])) rfl rfl (y 12 rfl)
  refine qb st4 ?_
  obtain ⟨_, T5, Lc5, X5, hQ5, st5⟩ := own_cS X4 hx hZ hown hml (rmlhc l Z A0 hw [] k_t_a0 fn_t_a0 t_a0 h0 n0 Z0 P_V_t_a0) (hwd 334 rfl) (hwd 335 rfl) (hwd 7 rfl) (hwd 336 rfl) (by decide) pd_334 e4 (g := (mkF m 27 #[vR a0, vI 0] [(.ref t_a0)])) (rest := []) rfl rfl rfl rfl (y 13 rfl) rfl
  obtain ⟨rfl, Nq5, eq5⟩ := hQ5
  have N5 := Fr.app N3 Nq5
  refine qb st5 ?_
  show qG p e below _ (T5.setTop (mkF m 30 #[vR a0, vI 0] [(.int ((fn_t_a0 0) &&& (255 : Int32)))]))
  refine qb (fun _ k => XS.goto X5.here hx rfl (pc0 := 30) (pc' := 40) rfl (y 14 rfl) (by decide) (by decide) k) ?_
  show qG p e below _ (T5.setTop (mkF m 40 #[vR a0, vI 0] [(.int ((fn_t_a0 0) &&& (255 : Int32)))]))
  refine qb (fun _ k => XS.istoreN X5.here hx rfl (y 15 rfl) rfl (l' := #[vR a0, vI ((fn_t_a0 0) &&& (255 : Int32))]) rfl k) ?_
  show qG p e below _ (T5.setTop (mkF m 41 #[vR a0, vI ((fn_t_a0 0) &&& (255 : Int32))] []))
  refine qb (fun _ k => XS.iloadN X5.here hx rfl (y 16 rfl) rfl k) ?_
  refine qb (fun _ k => XS.ifYes X5.here hx rfl (pc0 := 42) (pc' := 53) rfl (y 17 rfl) rfl ((if0 _ _).trans (feq hc_a0).2) (by decide) (by decide) k) ?_
  show qG p e below _ (T5.setTop (mkF m 53 #[vR a0, vI ((fn_t_a0 0) &&& (255 : Int32))] []))
  refine qb (fun _ k => XS.aloadN X5.here hx rfl (y 18 rfl) rfl rfl k) ?_
  refine qb (fun _ k => XS.iloadN X5.here hx rfl (y 19 rfl) rfl k) ?_
  obtain ⟨T6, h6, X6, e6, W6, st6⟩ := putF X5 hx hZ hown (host := "") (Or.inl (hwd 325 rfl)) Via.refl eq5 P_F_a0_hash P_E_a0 (Or.inl (hwd 326 rfl)) (hwd 10 rfl) (ty := .int) (by decide) rfl rfl (g := (mkF m 55 #[vR a0, vI ((fn_t_a0 0) &&& (255 : Int32))] [(.int ((fn_t_a0 0) &&& (255 : Int32))), (.ref a0)])) rfl rfl (y 20 rfl)
  have Fw6 : Fld Z h6 a0 cST "hash" "I" (.int ((fn_t_a0 0) &&& (255 : Int32))) := P_F_a0_hash.same W6
  have K6 : Keep h0 h6 [a0] := (Keep.refl h0 [a0]).wr W6 (Or.inl (List.mem_of_getElem? (i := 0) rfl))
  have Z6 := ql Z0 (Keep.of_wr W6).1
  have N6 := Fr.snoc X6 N5 g_a0
  refine qb st6 ?_
  show qG p e below _ (T6.setTop (mkF m 58 #[vR a0, vI ((fn_t_a0 0) &&& (255 : Int32))] []))
  refine qb (fun _ k => XS.iloadN X6.here hx rfl (y 21 rfl) rfl k) ?_
  have F7 := (P_E_a0.wr W6)
  have F8 := (P_F_a0_coder.other W6 (Or.inr (slot_ne (Or.inr (hwd 25 rfl)) (Or.inl (hwd 326 rfl)) (by decide) (t := .byte) (t' := .int) (by decide) (by decide))))
  have F9 := (P_F_a0_value.other W6 (Or.inr (slot_ne (Or.inr (hwd 23 rfl)) (Or.inl (hwd 326 rfl)) (by decide) (t := (.array .byte)) (t' := .int) (by decide) (by decide))))
  have F10 := (P_F_a0_hashIsZero.other W6 (Or.inr (slot_ne (Or.inl (hwd 328 rfl)) (Or.inl (hwd 326 rfl)) (by decide) (t := .boolean) (t' := .int) (by decide) (by decide))))
  exact own_retI X6 hx hrt (y 22 rfl) hlk e6 ⟨rfl, N6, K6, F7, F8, F9, Fw6, F10, (Or.inl trivial)⟩ (by decide) (by decide)
 ·skip
  show qG p e below _ (s₁.setTop (mkF m 0 #[vR a0, .unset] []))
  refine qb (fun _ k => XS.aloadN X0.here hx rfl (y 0 rfl) rfl rfl k) ?_
  obtain ⟨T11, X11, e11, st11⟩ := getF X0 hx hZ hown (host := "") (Or.inl (hwd 325 rfl)) Via.refl e0 P_F_a0_hash (g := (mkF m 1 #[vR a0, .unset] [(.ref a0)])) rfl rfl (y 1 rfl)
  refine qb st11 ?_
  refine qb (fun _ k => XS.istoreN X11.here hx rfl (y 2 rfl) rfl (l' := #[vR a0, vI ((fn_t_a0 0) &&& (255 : Int32))]) rfl k) ?_
  show qG p e below _ (T11.setTop (mkF m 5 #[vR a0, vI ((fn_t_a0 0) &&& (255 : Int32))] []))
  refine qb (fun _ k => XS.iloadN X11.here hx rfl (y 3 rfl) rfl k) ?_
  refine qb (fun _ k => XS.ifYes X11.here hx rfl (pc0 := 6) (pc' := 58) rfl (y 4 rfl) rfl ((if0 _ _).trans (feq hc_a0).2) (by decide) (by decide) k) ?_
  show qG p e below _ (T11.setTop (mkF m 58 #[vR a0, vI ((fn_t_a0 0) &&& (255 : Int32))] []))
  refine qb (fun _ k => XS.iloadN X11.here hx rfl (y 21 rfl) rfl k) ?_
  exact own_retI X11 hx hrt (y 22 rfl) hlk e11 ⟨rfl, N0, (Keep.refl h0 [a0]), P_E_a0, P_F_a0_coder, P_F_a0_value, P_F_a0_hash, P_F_a0_hashIsZero, (Or.inr (trivial))⟩ (by decide) (by decide)
theorem pd_93 : parseMethodDescriptor "()I" = some ⟨[], some .int⟩ := by decide +kernel
theorem d45 : own_ds jdk_69_method_1_code [(0, .aload_n 0, 1), (1, .ifnonnull 7, 3), (8, .aload_n 0, 1), (9, .invokevirtual 1, 3), (12, .dup, 1), (13, .istore_n 1, 1), (14, .iload_n 1, 1), (15, .bipush 16, 2), (17, .iushr, 1), (18, .ixor, 1), (19, .ireturn, 1)] = true := by decide +kernel
theorem ef_hsh (m : MethodId) (a0 : Addr) : entryFrame m #[(.ref a0)] 2 = mkF m 0 #[vR a0, .unset] [] := rfl
def Qhsh (Z : State) (t_a0 : Addr) (k_t_a0 : ClassId) (fn_t_a0 : Nat → Int32) (hv_a0 f_CS : Int32) (a0 : Addr) (h0 : Heap) (n0 : Nat) (v : Option Value) (h : Heap) (L : List Loc) : Prop := v = some (.int (((fn_t_a0 0) &&& (255 : Int32)) ^^^ ((((fn_t_a0 0) &&& (255 : Int32)).toUInt32 >>> ((16 : Int32) &&& 31).toUInt32).toInt32))) ∧ Fr n0 L ∧ Keep h0 h [a0] ∧ Exa Z h a0 "java/lang/String" ∧ Fld Z h a0 cST "coder" "B" (.int 0) ∧ Fld Z h a0 cST "value" "[B" (.ref t_a0) ∧ Fld Z h a0 cST "hash" "I" (.int ((fn_t_a0 0) &&& (255 : Int32))) ∧ Fld Z h a0 cST "hashIsZero" "Z" (.int 0)
theorem rmhsh (l : Launch) (Z : State) (A0 : Array Value) (hw : ∀ d ∈ tables_1, d.before A0 Z = true) (ws : List Jvm.Cond) (t_a0 : Addr) (k_t_a0 : ClassId) (fn_t_a0 : Nat → Int32) (hv_a0 f_CS : Int32) (a0 : Addr) (h0 : Heap) (n0 : Nat) (Z0 : n0 ≤ h0.size) (P_E_a0 : Exa Z h0 a0 "java/lang/String") (P_F_a0_coder : Fld Z h0 a0 cST "coder" "B" (.int 0)) (P_F_a0_value : Fld Z h0 a0 cST "value" "[B" (.ref t_a0)) (P_F_a0_hash : Fld Z h0 a0 cST "hash" "I" (.int hv_a0)) (P_F_a0_hashIsZero : Fld Z h0 a0 cST "hashIsZero" "Z" (.int 0)) (P_V_t_a0 : qA Z h0 t_a0 k_t_a0 .byte (1 : Int32) (fun i => .int (fn_t_a0 i))) (hh_a0 : hv_a0 = (0 : Int32) ∨ hv_a0 = ((fn_t_a0 0) &&& (255 : Int32))) (hc_a0 : ¬ (((fn_t_a0 0) &&& (255 : Int32)) = (0 : Int32))) (P_S_CS : Sta Z h0 cST "COMPACT_STRINGS" "Z" (.int f_CS)) (hn_CS : ¬ (f_CS = (0 : Int32))) (g_a0 : n0 ≤ a0) :
  qM l Z (⟨"java/util/HashMap", "hash", "(Ljava/lang/Object;)I"⟩ : MethodName) jdk_69_method_1_code 2 (some .int) ws ({ frames := 2, cells := 0, slots := 0, locals := 25 } : Room) #[(.ref a0)] h0 (Qhsh Z t_a0 k_t_a0 fn_t_a0 hv_a0 f_CS a0 h0 n0) 0 0 := qe d45 (plainFor_of_name pn_iHm) (fun m => ef_hsh m a0) fun p e s m below meth c s₁ hx Y hml hlk hown hnm X0 e0 hZ hrt => by
 have hwd := qw hw
 have N0 := Fr.nil n0
 show qG p e below _ (s₁.setTop (mkF m 0 #[vR a0, .unset] []))
 refine qb (fun _ k => XS.aloadN X0.here hx rfl (Y 0 rfl) rfl rfl k) ?_
 refine qb (fun _ k => XS.ifnonnullYes X0.here hx rfl (pc0 := 1) (pc' := 8) rfl (Y 1 rfl) rfl (by decide) (by decide) k) ?_
 show qG p e below _ (s₁.setTop (mkF m 8 #[vR a0, .unset] []))
 refine qb (fun _ k => XS.aloadN X0.here hx rfl (Y 2 rfl) rfl rfl k) ?_
 obtain ⟨cq1, kq1, qq1a, qq1b, qq1c⟩ := isOf hZ e0 P_E_a0
 obtain ⟨_, _, ⟨T1, L1, k1, n1⟩, -, X1, ⟨Lc1, hQ1, l1, y1, z1⟩, st1⟩ := X0.virtualBack hx (y := (⟨"java/lang/Object", "hashCode", "()I"⟩ : MethodName)) (z := (⟨"java/lang/String", "hashCode", "()I"⟩ : MethodName)) hown (mvT hZ (hwd 319 rfl)) (mvT hZ (hwd 320 rfl)) (own_notFace (args := #[]) (mvT hZ (hwd 194 rfl)) rfl) (mvT hZ (hwd 322 rfl)) (mvT hZ (hwd 323 rfl)) (by decide) (backOf (W := 0) (rmshc l Z A0 hw [] t_a0 k_t_a0 fn_t_a0 hv_a0 f_CS a0 h0 n0 Z0 P_E_a0 P_F_a0_coder P_F_a0_value P_F_a0_hash P_F_a0_hashIsZero P_V_t_a0 hh_a0 hc_a0 P_S_CS hn_CS g_a0) hZ (hwd 324 rfl) (hwd 2 rfl) (by decide) (by decide)) qq1a qq1c (g := (mkF m 9 #[vR a0, .unset] [(.ref a0)])) rfl (by rw [hml]; rfl) (Steps.refl _) (argsL := []) (rest := []) (lenOf pd_93 rfl) rfl (by show 2 * 0 + _ ≤ _; exact Nat.le_of_eq rfl) (Y 3 rfl) (fun _ _ => ⟨rfl, e0, (by decide : 0 + 0 ≤ _), (by decide : 0 + 0 ≤ _)⟩)
 dsimp only [Pt.U, Pt.locs, Pt.cells, Pt.slots] at X1 l1 y1 z1 st1 hQ1
 subst l1 y1 z1
 obtain ⟨rfl, Nq1, Kq1, F2, F3, F4, F5, F6, hp7⟩ := hQ1
 have N1 := Fr.app N0 Nq1
 have K1 : Keep h0 T1.heap [a0] := (Keep.refl h0 [a0]).trans Kq1 ((allS (Or.inl (List.mem_of_getElem? (i := 0) rfl)) all0))
 have Z1 := ql Z0 Kq1.1
 refine qb (fun _ k => st1.trans k) ?_
 show qG p e below _ (T1.setTop (mkF m 12 #[vR a0, .unset] [(.int ((fn_t_a0 0) &&& (255 : Int32)))]))
 refine qb (fun _ k => XS.dup X1.here hx rfl (Y 4 rfl) rfl rfl k) ?_
 refine qb (fun _ k => XS.istoreN X1.here hx rfl (Y 5 rfl) rfl (l' := #[vR a0, vI ((fn_t_a0 0) &&& (255 : Int32))]) rfl k) ?_
 show qG p e below _ (T1.setTop (mkF m 14 #[vR a0, vI ((fn_t_a0 0) &&& (255 : Int32))] [(.int ((fn_t_a0 0) &&& (255 : Int32)))]))
 refine qb (fun _ k => XS.iloadN X1.here hx rfl (Y 6 rfl) rfl k) ?_
 refine qb (fun _ k => XS.bipush X1.here hx rfl (Y 7 rfl) k) ?_
 refine qb (fun _ k => XS.iushr X1.here hx rfl (Y 8 rfl) rfl k) ?_
 refine qb (fun _ k => XS.ixor X1.here hx rfl (Y 9 rfl) rfl k) ?_
 show qG p e below _ (T1.setTop (mkF m 19 #[vR a0, vI ((fn_t_a0 0) &&& (255 : Int32))] [(.int (((fn_t_a0 0) &&& (255 : Int32)) ^^^ ((((fn_t_a0 0) &&& (255 : Int32)).toUInt32 >>> ((16 : Int32) &&& 31).toUInt32).toInt32)))]))
 exact own_retI X1 hx hrt (Y 10 rfl) hlk rfl ⟨rfl, N1, K1, F2, F3, F4, F5, F6⟩ (by decide) (by decide)
theorem d52 : own_ds jdk_70_method_1_code [(0, .aload_n 0, 1), (1, .invokespecial 1, 3), (4, .aload_n 0, 1), (5, .iload_n 1, 1), (6, .putfield 7, 3), (9, .aload_n 0, 1), (10, .aload_n 2, 1), (11, .putfield 13, 3), (14, .aload_n 0, 1), (15, .aload_n 3, 1), (16, .putfield 17, 3), (19, .aload_n 0, 1), (20, .aload 4, 2), (22, .putfield 20, 3), (25, .return_, 1)] = true := by decide +kernel
theorem pn_ndi : plainName "java/util/HashMap$Node" = true := by first | (simp [plainName, overriddenIn]; done) | decide +kernel
theorem ef_ndi (m : MethodId) (a0 : Addr) (p1 : Int32) (a2 a3 : Addr) : entryFrame m #[(.ref a0), (.int p1), (.ref a2), (.ref a3), .null] 5 = mkF m 0 #[vR a0, vI p1, vR a2, vR a3, .val .null] [] := by first | (simp [entryFrame, mkF, argsToLocals, Value.category]; done) | rfl
def Qndi (Z : State) (a0 : Addr) (p1 : Int32) (a2 a3 : Addr) (f_a0_hash : Int32) (f_a0_key f_a0_value f_a0_next : Value) (h0 : Heap) (n0 : Nat) (v : Option Value) (h : Heap) (L : List Loc) : Prop := v = none ∧ Fr n0 L ∧ Keep h0 h [a0] ∧ Exa Z h a0 "java/util/HashMap$Node" ∧ Fld Z h a0 cND "hash" "I" (.int p1) ∧ Fld Z h a0 cND "key" "Ljava/lang/Object;" (.ref a2) ∧ Fld Z h a0 cND "value" "Ljava/lang/Object;" (.ref a3) ∧ Fld Z h a0 cND "next" "Ljava/util/HashMap$Node;" .null
theorem rmndi (l : Launch) (Z : State) (A0 : Array Value) (hw : ∀ d ∈ tables_1, d.before A0 Z = true) (ws : List Jvm.Cond) (a0 : Addr) (p1 : Int32) (a2 a3 : Addr) (f_a0_hash : Int32) (f_a0_key f_a0_value f_a0_next : Value) (h0 : Heap) (n0 : Nat) (Z0 : n0 ≤ h0.size) (P_E_a0 : Exa Z h0 a0 "java/util/HashMap$Node") (P_F_a0_hash : Fld Z h0 a0 cND "hash" "I" (.int f_a0_hash)) (g_a0 : n0 ≤ a0) (P_F_a0_key : Fld Z h0 a0 cND "key" "Ljava/lang/Object;" f_a0_key) (P_F_a0_value : Fld Z h0 a0 cND "value" "Ljava/lang/Object;" f_a0_value) (P_F_a0_next : Fld Z h0 a0 cND "next" "Ljava/util/HashMap$Node;" f_a0_next) :
  qM l Z (⟨"java/util/HashMap$Node", "<init>", "(ILjava/lang/Object;Ljava/lang/Object;Ljava/util/HashMap$Node;)V"⟩ : MethodName) jdk_70_method_1_code 5 none ws ({ frames := 1, cells := 0, slots := 0, locals := 12 } : Room) #[(.ref a0), (.int p1), (.ref a2), (.ref a3), .null] h0 (Qndi Z a0 p1 a2 a3 f_a0_hash f_a0_key f_a0_value f_a0_next h0 n0) 0 0 := qe d52 (plainFor_of_name pn_ndi) (fun m => ef_ndi m a0 p1 a2 a3) fun p e s m below meth c s₁ hx y hml hlk hown hnm X0 e0 hZ hrt => by
 have hwd := qw hw
 have N0 := Fr.nil n0
 show qG p e below _ (s₁.setTop (mkF m 0 #[vR a0, vI p1, vR a2, vR a3, .val .null] []))
 refine qb (fun _ k => XS.aloadN X0.here hx rfl (y 0 rfl) rfl rfl k) ?_
 obtain ⟨T1, X1, e1, st1⟩ := initO X0 hx hZ hown (hwd 362 rfl) (hwd 20 rfl) (hwd 21 rfl) e0 (g := (mkF m 1 #[vR a0, vI p1, vR a2, vR a3, .val .null] [(.ref a0)])) rfl (by rw [hml]; rfl) rfl (y 1 rfl) (by decide) (W := 0) (by show 2 * 0 + _ ≤ _; exact Nat.le_of_eq rfl) (by decide)
 refine qb st1 ?_
 show qG p e below _ (T1.setTop (mkF m 4 #[vR a0, vI p1, vR a2, vR a3, .val .null] []))
 refine qb (fun _ k => XS.aloadN X1.here hx rfl (y 2 rfl) rfl rfl k) ?_
 refine qb (fun _ k => XS.iloadN X1.here hx rfl (y 3 rfl) rfl k) ?_
 obtain ⟨T2, h2, X2, e2, W2, st2⟩ := putF X1 hx hZ hown (host := "") (Or.inl (hwd 363 rfl)) Via.refl e1 P_F_a0_hash P_E_a0 (Or.inr ⟨(hwd 364 rfl), rfl, hnm⟩) (hwd 356 rfl) (ty := .int) (by decide) rfl rfl (g := (mkF m 6 #[vR a0, vI p1, vR a2, vR a3, .val .null] [(.int p1), (.ref a0)])) rfl rfl (y 4 rfl)
 have Fw2 : Fld Z h2 a0 cND "hash" "I" (.int p1) := P_F_a0_hash.same W2
 have K2 : Keep h0 h2 [a0] := (Keep.refl h0 [a0]).wr W2 (Or.inl (List.mem_of_getElem? (i := 0) rfl))
 have Z2 := ql Z0 (Keep.of_wr W2).1
 have N2 := Fr.snoc X2 N0 g_a0
 refine qb st2 ?_
 show qG p e below _ (T2.setTop (mkF m 9 #[vR a0, vI p1, vR a2, vR a3, .val .null] []))
 refine qb (fun _ k => XS.aloadN X2.here hx rfl (y 5 rfl) rfl rfl k) ?_
 refine qb (fun _ k => XS.aloadN X2.here hx rfl (y 6 rfl) rfl rfl k) ?_
 have F3 := (P_E_a0.wr W2)
 have F4 := (P_F_a0_key.other W2 (Or.inr (slot_ne (Or.inr (hwd 366 rfl)) (Or.inr (hwd 364 rfl)) (by decide) (t := (.object "java/lang/Object")) (t' := .int) (by decide) (by decide))))
 obtain ⟨T5, h5, X5, e5, W5, st5⟩ := putF X2 hx hZ hown (host := "") (Or.inl (hwd 365 rfl)) Via.refl e2 F4 F3 (Or.inr ⟨(hwd 366 rfl), rfl, hnm⟩) (hwd 356 rfl) (ty := (.object "java/lang/Object")) (by decide) rfl rfl (g := (mkF m 11 #[vR a0, vI p1, vR a2, vR a3, .val .null] [(.ref a2), (.ref a0)])) rfl rfl (y 7 rfl)
 have Fw5 : Fld Z h5 a0 cND "key" "Ljava/lang/Object;" (.ref a2) := F4.same W5
 have K5 : Keep h0 h5 [a0] := K2.wr W5 (Or.inl (List.mem_of_getElem? (i := 0) rfl))
 have Z5 := ql Z2 (Keep.of_wr W5).1
 have N5 := Fr.snoc X5 N2 g_a0
 refine qb st5 ?_
 show qG p e below _ (T5.setTop (mkF m 14 #[vR a0, vI p1, vR a2, vR a3, .val .null] []))
 refine qb (fun _ k => XS.aloadN X5.here hx rfl (y 8 rfl) rfl rfl k) ?_
 refine qb (fun _ k => XS.aloadN X5.here hx rfl (y 9 rfl) rfl rfl k) ?_
 have F6 := (F3.wr W5)
 have F7 := ((P_F_a0_value.other W2 (Or.inr (slot_ne (Or.inl (hwd 368 rfl)) (Or.inr (hwd 364 rfl)) (by decide) (t := (.object "java/lang/Object")) (t' := .int) (by decide) (by decide)))).other W5 (Or.inr (slot_ne (Or.inl (hwd 368 rfl)) (Or.inr (hwd 366 rfl)) (by decide) (t := (.object "java/lang/Object")) (t' := (.object "java/lang/Object")) (by decide) (by decide))))
 obtain ⟨T8, h8, X8, e8, W8, st8⟩ := putF X5 hx hZ hown (host := "") (Or.inl (hwd 367 rfl)) Via.refl e5 F7 F6 (Or.inl (hwd 368 rfl)) (hwd 356 rfl) (ty := (.object "java/lang/Object")) (by decide) rfl rfl (g := (mkF m 16 #[vR a0, vI p1, vR a2, vR a3, .val .null] [(.ref a3), (.ref a0)])) rfl rfl (y 10 rfl)
 have Fw8 : Fld Z h8 a0 cND "value" "Ljava/lang/Object;" (.ref a3) := F7.same W8
 have K8 : Keep h0 h8 [a0] := K5.wr W8 (Or.inl (List.mem_of_getElem? (i := 0) rfl))
 have Z8 := ql Z5 (Keep.of_wr W8).1
 have N8 := Fr.snoc X8 N5 g_a0
 refine qb st8 ?_
 show qG p e below _ (T8.setTop (mkF m 19 #[vR a0, vI p1, vR a2, vR a3, .val .null] []))
 refine qb (fun _ k => XS.aloadN X8.here hx rfl (y 11 rfl) rfl rfl k) ?_
 refine qb (fun _ k => XS.aload X8.here hx rfl (y 12 rfl) rfl rfl k) ?_
 have F9 := (F6.wr W8)
 have F10 := (((P_F_a0_next.other W2 (Or.inr (slot_ne (Or.inl (hwd 370 rfl)) (Or.inr (hwd 364 rfl)) (by decide) (t := (.object "java/util/HashMap$Node")) (t' := .int) (by decide) (by decide)))).other W5 (Or.inr (slot_ne (Or.inl (hwd 370 rfl)) (Or.inr (hwd 366 rfl)) (by decide) (t := (.object "java/util/HashMap$Node")) (t' := (.object "java/lang/Object")) (by decide) (by decide)))).other W8 (Or.inr (slot_ne (Or.inl (hwd 370 rfl)) (Or.inl (hwd 368 rfl)) (by decide) (t := (.object "java/util/HashMap$Node")) (t' := (.object "java/lang/Object")) (by decide) (by decide))))
 obtain ⟨T11, h11, X11, e11, W11, st11⟩ := putF X8 hx hZ hown (host := "") (Or.inl (hwd 369 rfl)) Via.refl e8 F10 F9 (Or.inl (hwd 370 rfl)) (hwd 356 rfl) (ty := (.object "java/util/HashMap$Node")) (by decide) rfl rfl (g := (mkF m 22 #[vR a0, vI p1, vR a2, vR a3, .val .null] [.null, (.ref a0)])) rfl rfl (y 13 rfl)
 have Fw11 : Fld Z h11 a0 cND "next" "Ljava/util/HashMap$Node;" .null := F10.same W11
 have K11 : Keep h0 h11 [a0] := K8.wr W11 (Or.inl (List.mem_of_getElem? (i := 0) rfl))
 have Z11 := ql Z8 (Keep.of_wr W11).1
 have N11 := Fr.snoc X11 N8 g_a0
 refine qb st11 ?_
 show qG p e below _ (T11.setTop (mkF m 25 #[vR a0, vI p1, vR a2, vR a3, .val .null] []))
 have F12 := (F9.wr W11)
 have F13 := (((Fw2.other W5 (Or.inr (slot_ne (Or.inr (hwd 364 rfl)) (Or.inr (hwd 366 rfl)) (by decide) (t := .int) (t' := (.object "java/lang/Object")) (by decide) (by decide)))).other W8 (Or.inr (slot_ne (Or.inr (hwd 364 rfl)) (Or.inl (hwd 368 rfl)) (by decide) (t := .int) (t' := (.object "java/lang/Object")) (by decide) (by decide)))).other W11 (Or.inr (slot_ne (Or.inr (hwd 364 rfl)) (Or.inl (hwd 370 rfl)) (by decide) (t := .int) (t' := (.object "java/util/HashMap$Node")) (by decide) (by decide))))
 have F14 := ((Fw5.other W8 (Or.inr (slot_ne (Or.inr (hwd 366 rfl)) (Or.inl (hwd 368 rfl)) (by decide) (t := (.object "java/lang/Object")) (t' := (.object "java/lang/Object")) (by decide) (by decide)))).other W11 (Or.inr (slot_ne (Or.inr (hwd 366 rfl)) (Or.inl (hwd 370 rfl)) (by decide) (t := (.object "java/lang/Object")) (t' := (.object "java/util/HashMap$Node")) (by decide) (by decide))))
 have F15 := (Fw8.other W11 (Or.inr (slot_ne (Or.inl (hwd 368 rfl)) (Or.inl (hwd 370 rfl)) (by decide) (t := (.object "java/lang/Object")) (t' := (.object "java/util/HashMap$Node")) (by decide) (by decide))))
 exact own_ret0 X11 hx hrt (y 14 rfl) hlk e11 ⟨rfl, N11, K11, F12, F13, F14, F15, Fw11⟩ (by decide) (by decide)
theorem pd_358 : parseMethodDescriptor "(ILjava/lang/Object;Ljava/lang/Object;Ljava/util/HashMap$Node;)V" = some ⟨[.int, (.object "java/lang/Object"), (.object "java/lang/Object"), (.object "java/util/HashMap$Node")], none⟩ := by decide +kernel
theorem d51 : own_ds jdk_69_method_46_code [(0, .new 163, 3), (3, .dup, 1), (4, .iload_n 1, 1), (5, .aload_n 2, 1), (6, .aload_n 3, 1), (7, .aload 4, 2), (9, .invokespecial 375, 3), (12, .areturn, 1)] = true := by decide +kernel
theorem ef_newN (m : MethodId) (a0 : Addr) (p1 : Int32) (a2 a3 : Addr) : entryFrame m #[(.ref a0), (.int p1), (.ref a2), (.ref a3), .null] 5 = mkF m 0 #[vR a0, vI p1, vR a2, vR a3, .val .null] [] := by first | (simp [entryFrame, mkF, argsToLocals, Value.category]; done) | rfl
def QnewN (Z : State) (a0 : Addr) (p1 : Int32) (a2 a3 : Addr) (h0 : Heap) (n0 : Nat) (v : Option Value) (h : Heap) (L : List Loc) : Prop := ∃ (b1 : Addr), v = some (.ref b1) ∧ Fr n0 L ∧ Keep h0 h [] ∧ (n0 ≤ b1) ∧ (h0.size ≤ b1) ∧ Exa Z h b1 "java/util/HashMap$Node" ∧ Fld Z h b1 cND "hash" "I" (.int p1) ∧ Fld Z h b1 cND "key" "Ljava/lang/Object;" (.ref a2) ∧ Fld Z h b1 cND "value" "Ljava/lang/Object;" (.ref a3) ∧ Fld Z h b1 cND "next" "Ljava/util/HashMap$Node;" .null
theorem rmnewN (l : Launch) (Z : State) (A0 : Array Value) (hw : ∀ d ∈ tables_1, d.before A0 Z = true) (ws : List Jvm.Cond) (a0 : Addr) (p1 : Int32) (a2 a3 : Addr) (h0 : Heap) (n0 : Nat) (Z0 : n0 ≤ h0.size) :
  qM l Z (⟨"java/util/HashMap", "newNode", "(ILjava/lang/Object;Ljava/lang/Object;Ljava/util/HashMap$Node;)Ljava/util/HashMap$Node;"⟩ : MethodName) jdk_69_method_46_code 5 (some (.object "java/util/HashMap$Node")) ws ({ frames := 2, cells := 1, slots := 4, locals := 29 } : Room) #[(.ref a0), (.int p1), (.ref a2), (.ref a3), .null] h0 (QnewN Z a0 p1 a2 a3 h0 n0) 1 4 := qe d51 (plainFor_of_name pn_iHm) (fun m => ef_newN m a0 p1 a2 a3) fun p e s m below meth c s₁ hx y hml hlk hown hnm X0 e0 hZ hrt => by
 have hwd := qw hw
 have N0 := Fr.nil n0
 show qG p e below _ (s₁.setTop (mkF m 0 #[vR a0, vI p1, vR a2, vR a3, .val .null] []))
 obtain ⟨T1, h1, X1, e1, E1, A1, D1, -, st1⟩ := newO X0 hx hZ hown (hwd 349 rfl) (hwd 356 rfl) (hwd 357 rfl) e0 (g := (mkF m 0 #[vR a0, vI p1, vR a2, vR a3, .val .null] [])) rfl (y 0 rfl) (by decide) (by decide)
 obtain ⟨b1, g1⟩ : ∃ z, z = h0.size := ⟨_, rfl⟩
 have ge_b1 : n0 ≤ b1 := ql Z0 (Nat.le_of_eq g1.symm)
 have sz_b1 := ql (Keep.refl h0 []).1 (Nat.le_of_eq g1.symm)
 have K1 : Keep h0 h1 [] := (Keep.refl h0 []).ext E1
 have Z1 := ql Z0 E1.1
 rw [← g1] at A1 D1 st1
 have F_hash_b1 : Fld Z h1 b1 cND "hash" "I" (.int 0) := D1 (Or.inr (hwd 364 rfl)) (ty := .int) (by decide)
 have F_key_b1 : Fld Z h1 b1 cND "key" "Ljava/lang/Object;" .null := D1 (Or.inr (hwd 366 rfl)) (ty := (.object "java/lang/Object")) (by decide)
 have F_value_b1 : Fld Z h1 b1 cND "value" "Ljava/lang/Object;" .null := D1 (Or.inl (hwd 368 rfl)) (ty := (.object "java/lang/Object")) (by decide)
 have F_next_b1 : Fld Z h1 b1 cND "next" "Ljava/util/HashMap$Node;" .null := D1 (Or.inl (hwd 370 rfl)) (ty := (.object "java/util/HashMap$Node")) (by decide)
 refine qb st1 ?_
 show qG p e below _ (T1.setTop (mkF m 3 #[vR a0, vI p1, vR a2, vR a3, .val .null] [(.ref b1)]))
 refine qb (fun _ k => XS.dup X1.here hx rfl (y 1 rfl) rfl rfl k) ?_
 refine qb (fun _ k => XS.iloadN X1.here hx rfl (y 2 rfl) rfl k) ?_
 refine qb (fun _ k => XS.aloadN X1.here hx rfl (y 3 rfl) rfl rfl k) ?_
 refine qb (fun _ k => XS.aloadN X1.here hx rfl (y 4 rfl) rfl rfl k) ?_
 refine qb (fun _ k => XS.aload X1.here hx rfl (y 5 rfl) rfl rfl k) ?_
 obtain ⟨_, T2, Lc2, X2, hQ2, st2⟩ := own_cI X1 hx hZ hown hml (rmndi l Z A0 hw [] b1 p1 a2 a3 (0 : Int32) (.null) (.null) (.null) h1 n0 Z1 A1 F_hash_b1 ge_b1 F_key_b1 F_value_b1 F_next_b1) (hwd 358 rfl) (hwd 359 rfl) (hwd 357 rfl) (hwd 361 rfl) (by decide) pd_358 e1 rfl (g := (mkF m 9 #[vR a0, vI p1, vR a2, vR a3, .val .null] [.null, (.ref a3), (.ref a2), (.int p1), (.ref b1), (.ref b1)])) (rest := [(.ref b1)]) rfl rfl rfl rfl (y 6 rfl) rfl
 obtain ⟨rfl, Nq2, Kq2, F3, F4, F5, F6, F7⟩ := hQ2
 have N2 := Fr.app N0 Nq2
 have K2 : Keep h0 T2.heap [] := K1.trans Kq2 ((allS (Or.inr sz_b1) all0))
 have Z2 := ql Z1 Kq2.1
 refine qb st2 ?_
 show qG p e below _ (T2.setTop (mkF m 12 #[vR a0, vI p1, vR a2, vR a3, .val .null] [(.ref b1)]))
 exact own_retR X2 hx hrt (by decide) rfl (y 7 rfl) hlk rfl ⟨_, rfl, N2, K2, ge_b1, sz_b1, F3, F4, F5, F6, F7⟩ (by decide) (by decide)
theorem d53 : own_ds jdk_69_method_52_code [(0, .return_, 1)] = true := by decide +kernel
theorem ef_ani (m : MethodId) (a0 : Addr) (p1 : Int32) : entryFrame m #[(.ref a0), (.int p1)] 2 = mkF m 0 #[vR a0, vI p1] [] := rfl
def Qani (Z : State) (a0 : Addr) (p1 : Int32) (h0 : Heap) (n0 : Nat) (v : Option Value) (h : Heap) (L : List Loc) : Prop := v = none ∧ Fr n0 L ∧ h = h0
theorem rmani (l : Launch) (Z : State) (A0 : Array Value) (hw : ∀ d ∈ tables_1, d.before A0 Z = true) (ws : List Jvm.Cond) (a0 : Addr) (p1 : Int32) (h0 : Heap) (n0 : Nat) (Z0 : n0 ≤ h0.size) :
  qM l Z (⟨"java/util/HashMap", "afterNodeInsertion", "(Z)V"⟩ : MethodName) jdk_69_method_52_code 2 none ws ({ frames := 0, cells := 0, slots := 0, locals := 0 } : Room) #[(.ref a0), (.int p1)] h0 (Qani Z a0 p1 h0 n0) 0 0 := qe d53 (plainFor_of_name pn_iHm) (fun m => ef_ani m a0 p1) fun p e s m below meth c s₁ hx y hml hlk hown hnm X0 e0 hZ hrt => by
 have hwd := qw hw
 have N0 := Fr.nil n0
 show qG p e below _ (s₁.setTop (mkF m 0 #[vR a0, vI p1] []))
 exact own_ret0 X0 hx hrt (y 0 rfl) hlk e0 ⟨rfl, N0, rfl⟩ (by decide) (by decide)
theorem d50 : own_ds jdk_69_method_17_code [(0, .aload_n 0, 1), (1, .getfield 105, 3), (4, .astore_n 1, 1), (5, .aload_n 1, 1), (6, .ifnonnull 7, 3), (9, .iconst 0, 1), (10, .goto 5, 3), (15, .istore_n 2, 1), (16, .aload_n 0, 1), (17, .getfield 88, 3), (20, .istore_n 3, 1), (21, .iconst 0, 1), (22, .istore 5, 2), (24, .iload_n 2, 1), (25, .ifCond .le 42, 3), (67, .iload_n 3, 1), (68, .ifCond .le 9, 3), (77, .bipush 16, 2), (79, .istore 4, 2), (81, .bipush 12, 2), (83, .istore 5, 2), (85, .iload 5, 2), (87, .ifCond .ne 38, 3), (125, .aload_n 0, 1), (126, .iload 5, 2), (128, .putfield 88, 3), (131, .iload 4, 2), (133, .anewarray 163, 3), (136, .astore 6, 2), (138, .aload_n 0, 1), (139, .aload 6, 2), (141, .putfield 105, 3), (144, .aload_n 1, 1), (145, .ifnull 208, 3), (353, .aload 6, 2), (355, .areturn, 1)] = true := by decide +kernel
theorem ef_rsz (m : MethodId) (a0 : Addr) : entryFrame m #[(.ref a0)] 14 = mkF m 0 #[vR a0, .unset, .unset, .unset, .unset, .unset, .unset, .unset, .unset, .unset, .unset, .unset, .unset, .unset] [] := by first | (simp [entryFrame, mkF, argsToLocals, Value.category]; done) | rfl
def Qrsz (Z : State) (lf_a0 : UInt32) (a0 : Addr) (h0 : Heap) (n0 : Nat) (v : Option Value) (h : Heap) (L : List Loc) : Prop := ∃ (b4 : Addr) (k4 : ClassId), v = some (.ref b4) ∧ Fr n0 L ∧ Keep h0 h [a0] ∧ Exa Z h a0 "java/util/HashMap" ∧ Fld Z h a0 cHM "table" "[Ljava/util/HashMap$Node;" (.ref b4) ∧ Fld Z h a0 cHM "size" "I" (.int 0) ∧ Fld Z h a0 cHM "modCount" "I" (.int 0) ∧ Fld Z h a0 cHM "threshold" "I" (.int 12) ∧ Fld Z h a0 cHM "loadFactor" "F" (.float lf_a0) ∧ Fld Z h a0 cAM "values" "Ljava/util/Collection;" .null ∧ (n0 ≤ b4) ∧ (h0.size ≤ b4) ∧ Exa Z h b4 "[Ljava/util/HashMap$Node;" ∧ qA Z h b4 k4 (.object "java/util/HashMap$Node") (16 : Int32) (fun i => (fun _ => Value.null) i) ∧ (Ovr Z k4 "java/util/HashMap$Node")
theorem rmrsz (l : Launch) (Z : State) (A0 : Array Value) (hw : ∀ d ∈ tables_1, d.before A0 Z = true) (ws : List Jvm.Cond) (lf_a0 : UInt32) (a0 : Addr) (h0 : Heap) (n0 : Nat) (Z0 : n0 ≤ h0.size) (P_E_a0 : Exa Z h0 a0 "java/util/HashMap") (P_F_a0_table : Fld Z h0 a0 cHM "table" "[Ljava/util/HashMap$Node;" .null) (P_F_a0_size : Fld Z h0 a0 cHM "size" "I" (.int 0)) (P_F_a0_modCount : Fld Z h0 a0 cHM "modCount" "I" (.int 0)) (P_F_a0_threshold : Fld Z h0 a0 cHM "threshold" "I" (.int 0)) (P_F_a0_loadFactor : Fld Z h0 a0 cHM "loadFactor" "F" (.float lf_a0)) (P_F_a0_values : Fld Z h0 a0 cAM "values" "Ljava/util/Collection;" .null) (g_a0 : n0 ≤ a0) :
  qM l Z (⟨"java/util/HashMap", "resize", "()[Ljava/util/HashMap$Node;"⟩ : MethodName) jdk_69_method_17_code 14 (some (.array (.object "java/util/HashMap$Node"))) ws ({ frames := 0, cells := 1, slots := 16, locals := 0 } : Room) #[(.ref a0)] h0 (Qrsz Z lf_a0 a0 h0 n0) 1 16 := qe d50 (plainFor_of_name pn_iHm) (fun m => ef_rsz m a0) fun p e s m below meth c s₁ hx y hml hlk hown hnm X0 e0 hZ hrt => by
 have hwd := qw hw
 have N0 := Fr.nil n0
 show qG p e below _ (s₁.setTop (mkF m 0 #[vR a0, .unset, .unset, .unset, .unset, .unset, .unset, .unset, .unset, .unset, .unset, .unset, .unset, .unset] []))
 refine qb (fun _ k => XS.aloadN X0.here hx rfl (y 0 rfl) rfl rfl k) ?_
 obtain ⟨T1, X1, e1, st1⟩ := getF X0 hx hZ hown (host := "") (Or.inl (hwd 296 rfl)) Via.refl e0 P_F_a0_table (g := (mkF m 1 #[vR a0, .unset, .unset, .unset, .unset, .unset, .unset, .unset, .unset, .unset, .unset, .unset, .unset, .unset] [(.ref a0)])) rfl rfl (y 1 rfl)
 refine qb st1 ?_
 refine qb (fun _ k => XS.astoreN X1.here hx rfl (y 2 rfl) rfl rfl (l' := #[vR a0, .val .null, .unset, .unset, .unset, .unset, .unset, .unset, .unset, .unset, .unset, .unset, .unset, .unset]) rfl k) ?_
 show qG p e below _ (T1.setTop (mkF m 5 #[vR a0, .val .null, .unset, .unset, .unset, .unset, .unset, .unset, .unset, .unset, .unset, .unset, .unset, .unset] []))
 refine qb (fun _ k => XS.aloadN X1.here hx rfl (y 3 rfl) rfl rfl k) ?_
 refine qb (fun _ k => XS.ifnonnullNo X1.here hx rfl (y 4 rfl) rfl k) ?_
 show qG p e below _ (T1.setTop (mkF m 9 #[vR a0, .val .null, .unset, .unset, .unset, .unset, .unset, .unset, .unset, .unset, .unset, .unset, .unset, .unset] []))
 refine qb (fun _ k => XS.iconst X1.here hx rfl (y 5 rfl) k) ?_
 refine qb (fun _ k => XS.goto X1.here hx rfl (pc0 := 10) (pc' := 15) rfl (y 6 rfl) (by decide) (by decide) k) ?_
 show qG p e below _ (T1.setTop (mkF m 15 #[vR a0, .val .null, .unset, .unset, .unset, .unset, .unset, .unset, .unset, .unset, .unset, .unset, .unset, .unset] [(.int 0)]))
 refine qb (fun _ k => XS.istoreN X1.here hx rfl (y 7 rfl) rfl (l' := #[vR a0, .val .null, vI 0, .unset, .unset, .unset, .unset, .unset, .unset, .unset, .unset, .unset, .unset, .unset]) rfl k) ?_
 show qG p e below _ (T1.setTop (mkF m 16 #[vR a0, .val .null, vI 0, .unset, .unset, .unset, .unset, .unset, .unset, .unset, .unset, .unset, .unset, .unset] []))
 refine qb (fun _ k => XS.aloadN X1.here hx rfl (y 8 rfl) rfl rfl k) ?_
 obtain ⟨T2, X2, e2, st2⟩ := getF X1 hx hZ hown (host := "") (Or.inl (hwd 347 rfl)) Via.refl e1 P_F_a0_threshold (g := (mkF m 17 #[vR a0, .val .null, vI 0, .unset, .unset, .unset, .unset, .unset, .unset, .unset, .unset, .unset, .unset, .unset] [(.ref a0)])) rfl rfl (y 9 rfl)
 refine qb st2 ?_
 refine qb (fun _ k => XS.istoreN X2.here hx rfl (y 10 rfl) rfl (l' := #[vR a0, .val .null, vI 0, vI 0, .unset, .unset, .unset, .unset, .unset, .unset, .unset, .unset, .unset, .unset]) rfl k) ?_
 show qG p e below _ (T2.setTop (mkF m 21 #[vR a0, .val .null, vI 0, vI 0, .unset, .unset, .unset, .unset, .unset, .unset, .unset, .unset, .unset, .unset] []))
 refine qb (fun _ k => XS.iconst X2.here hx rfl (y 11 rfl) k) ?_
 refine qb (fun _ k => XS.istore X2.here hx rfl (y 12 rfl) rfl (l' := #[vR a0, .val .null, vI 0, vI 0, .unset, vI 0, .unset, .unset, .unset, .unset, .unset, .unset, .unset, .unset]) rfl k) ?_
 show qG p e below _ (T2.setTop (mkF m 24 #[vR a0, .val .null, vI 0, vI 0, .unset, vI 0, .unset, .unset, .unset, .unset, .unset, .unset, .unset, .unset] []))
 refine qb (fun _ k => XS.iloadN X2.here hx rfl (y 13 rfl) rfl k) ?_
 refine qb (fun _ k => XS.ifYes X2.here hx rfl (pc0 := 25) (pc' := 67) rfl (y 14 rfl) rfl ((if0 _ _).trans (flt (by decide : ¬ ((0 : Int32) < (0 : Int32)))).2.2.2) (by decide) (by decide) k) ?_
 show qG p e below _ (T2.setTop (mkF m 67 #[vR a0, .val .null, vI 0, vI 0, .unset, vI 0, .unset, .unset, .unset, .unset, .unset, .unset, .unset, .unset] []))
 refine qb (fun _ k => XS.iloadN X2.here hx rfl (y 15 rfl) rfl k) ?_
 refine qb (fun _ k => XS.ifYes X2.here hx rfl (pc0 := 68) (pc' := 77) rfl (y 16 rfl) rfl ((if0 _ _).trans (flt (by decide : ¬ ((0 : Int32) < (0 : Int32)))).2.2.2) (by decide) (by decide) k) ?_
 show qG p e below _ (T2.setTop (mkF m 77 #[vR a0, .val .null, vI 0, vI 0, .unset, vI 0, .unset, .unset, .unset, .unset, .unset, .unset, .unset, .unset] []))
 refine qb (fun _ k => XS.bipush X2.here hx rfl (y 17 rfl) k) ?_
 refine qb (fun _ k => XS.istore X2.here hx rfl (y 18 rfl) rfl (l' := #[vR a0, .val .null, vI 0, vI 0, vI 16, vI 0, .unset, .unset, .unset, .unset, .unset, .unset, .unset, .unset]) rfl k) ?_
 show qG p e below _ (T2.setTop (mkF m 81 #[vR a0, .val .null, vI 0, vI 0, vI 16, vI 0, .unset, .unset, .unset, .unset, .unset, .unset, .unset, .unset] []))
 refine qb (fun _ k => XS.bipush X2.here hx rfl (y 19 rfl) k) ?_
 refine qb (fun _ k => XS.istore X2.here hx rfl (y 20 rfl) rfl (l' := #[vR a0, .val .null, vI 0, vI 0, vI 16, vI 12, .unset, .unset, .unset, .unset, .unset, .unset, .unset, .unset]) rfl k) ?_
 show qG p e below _ (T2.setTop (mkF m 85 #[vR a0, .val .null, vI 0, vI 0, vI 16, vI 12, .unset, .unset, .unset, .unset, .unset, .unset, .unset, .unset] []))
 refine qb (fun _ k => XS.iload X2.here hx rfl (y 21 rfl) rfl k) ?_
 refine qb (fun _ k => XS.ifYes X2.here hx rfl (pc0 := 87) (pc' := 125) rfl (y 22 rfl) rfl ((if0 _ _).trans (feq (by decide : ¬ ((12 : Int32) = (0 : Int32)))).2) (by decide) (by decide) k) ?_
 show qG p e below _ (T2.setTop (mkF m 125 #[vR a0, .val .null, vI 0, vI 0, vI 16, vI 12, .unset, .unset, .unset, .unset, .unset, .unset, .unset, .unset] []))
 refine qb (fun _ k => XS.aloadN X2.here hx rfl (y 23 rfl) rfl rfl k) ?_
 refine qb (fun _ k => XS.iload X2.here hx rfl (y 24 rfl) rfl k) ?_
 obtain ⟨T3, h3, X3, e3, W3, st3⟩ := putF X2 hx hZ hown (host := "") (Or.inl (hwd 347 rfl)) Via.refl e2 P_F_a0_threshold P_E_a0 (Or.inl (hwd 348 rfl)) (hwd 67 rfl) (ty := .int) (by decide) rfl rfl (g := (mkF m 128 #[vR a0, .val .null, vI 0, vI 0, vI 16, vI 12, .unset, .unset, .unset, .unset, .unset, .unset, .unset, .unset] [(.int 12), (.ref a0)])) rfl rfl (y 25 rfl)
 have Fw3 : Fld Z h3 a0 cHM "threshold" "I" (.int 12) := P_F_a0_threshold.same W3
 have K3 : Keep h0 h3 [a0] := (Keep.refl h0 [a0]).wr W3 (Or.inl (List.mem_of_getElem? (i := 0) rfl))
 have Z3 := ql Z0 (Keep.of_wr W3).1
 have N3 := Fr.snoc X3 N0 g_a0
 refine qb st3 ?_
 show qG p e below _ (T3.setTop (mkF m 131 #[vR a0, .val .null, vI 0, vI 0, vI 16, vI 12, .unset, .unset, .unset, .unset, .unset, .unset, .unset, .unset] []))
 refine qb (fun _ k => XS.iload X3.here hx rfl (y 26 rfl) rfl k) ?_
 obtain ⟨T4, h4, k4, X4, e4, E4, A4, Ax4, O4, st4⟩ := newRE X3 hx hZ hown (hwd 349 rfl) (hwd 350 rfl) e3 (g := (mkF m 133 #[vR a0, .val .null, vI 0, vI 0, vI 16, vI 12, .unset, .unset, .unset, .unset, .unset, .unset, .unset, .unset] [(.int 16)])) rfl (y 27 rfl) rfl (by decide) (cap := 16) (by decide) (by decide) (by decide) (by decide) (ad := "[Ljava/util/HashMap$Node;") (by decide)
 obtain ⟨b4, g4⟩ : ∃ z, z = h3.size := ⟨_, rfl⟩
 have ge_b4 : n0 ≤ b4 := ql Z3 (Nat.le_of_eq g4.symm)
 have sz_b4 := ql K3.1 (Nat.le_of_eq g4.symm)
 have K4 : Keep h0 h4 [a0] := K3.ext E4
 have Z4 := ql Z3 E4.1
 rw [← g4] at A4 Ax4 st4
 have V4 : qA Z h4 b4 k4 (.object "java/util/HashMap$Node") (16 : Int32) (fun i => (fun _ => Value.null) i) := own_arfNewR A4 (by decide)
 refine qb st4 ?_
 show qG p e below _ (T4.setTop (mkF m 136 #[vR a0, .val .null, vI 0, vI 0, vI 16, vI 12, .unset, .unset, .unset, .unset, .unset, .unset, .unset, .unset] [(.ref b4)]))
 refine qb (fun _ k => XS.astore X4.here hx rfl (y 28 rfl) rfl rfl (l' := #[vR a0, .val .null, vI 0, vI 0, vI 16, vI 12, vR b4, .unset, .unset, .unset, .unset, .unset, .unset, .unset]) rfl k) ?_
 show qG p e below _ (T4.setTop (mkF m 138 #[vR a0, .val .null, vI 0, vI 0, vI 16, vI 12, vR b4, .unset, .unset, .unset, .unset, .unset, .unset, .unset] []))
 refine qb (fun _ k => XS.aloadN X4.here hx rfl (y 29 rfl) rfl rfl k) ?_
 refine qb (fun _ k => XS.aload X4.here hx rfl (y 30 rfl) rfl rfl k) ?_
 have F5 := ((P_E_a0.wr W3).ext E4)
 have F6 := ((P_F_a0_table.other W3 (Or.inr (slot_ne (Or.inl (hwd 170 rfl)) (Or.inl (hwd 348 rfl)) (by decide) (t := (.array (.object "java/util/HashMap$Node"))) (t' := .int) (by decide) (by decide)))).ext E4)
 obtain ⟨T7, h7, X7, e7, W7, st7⟩ := putF X4 hx hZ hown (host := "") (Or.inl (hwd 296 rfl)) Via.refl e4 F6 F5 (Or.inl (hwd 170 rfl)) (hwd 67 rfl) (ty := (.array (.object "java/util/HashMap$Node"))) (by decide) rfl rfl (g := (mkF m 141 #[vR a0, .val .null, vI 0, vI 0, vI 16, vI 12, vR b4, .unset, .unset, .unset, .unset, .unset, .unset, .unset] [(.ref b4), (.ref a0)])) rfl rfl (y 31 rfl)
 have Fw7 : Fld Z h7 a0 cHM "table" "[Ljava/util/HashMap$Node;" (.ref b4) := F6.same W7
 have K7 : Keep h0 h7 [a0] := K4.wr W7 (Or.inl (List.mem_of_getElem? (i := 0) rfl))
 have Z7 := ql Z4 (Keep.of_wr W7).1
 have N7 := Fr.snoc X7 N3 g_a0
 refine qb st7 ?_
 show qG p e below _ (T7.setTop (mkF m 144 #[vR a0, .val .null, vI 0, vI 0, vI 16, vI 12, vR b4, .unset, .unset, .unset, .unset, .unset, .unset, .unset] []))
 refine qb (fun _ k => XS.aloadN X7.here hx rfl (y 32 rfl) rfl rfl k) ?_
 refine qb (fun _ k => XS.ifnullYes X7.here hx rfl (pc0 := 145) (pc' := 353) rfl (y 33 rfl) rfl (by decide) (by decide) k) ?_
 show qG p e below _ (T7.setTop (mkF m 353 #[vR a0, .val .null, vI 0, vI 0, vI 16, vI 12, vR b4, .unset, .unset, .unset, .unset, .unset, .unset, .unset] []))
 refine qb (fun _ k => XS.aload X7.here hx rfl (y 34 rfl) rfl rfl k) ?_
 have F8 := (F5.wr W7)
 have F9 := (((P_F_a0_size.other W3 (Or.inr (slot_ne (Or.inl (hwd 117 rfl)) (Or.inl (hwd 348 rfl)) (by decide) (t := .int) (t' := .int) (by decide) (by decide)))).ext E4).other W7 (Or.inr (slot_ne (Or.inl (hwd 117 rfl)) (Or.inl (hwd 170 rfl)) (by decide) (t := .int) (t' := (.array (.object "java/util/HashMap$Node"))) (by decide) (by decide))))
 have F10 := (((P_F_a0_modCount.other W3 (Or.inr (slot_ne (Or.inl (hwd 166 rfl)) (Or.inl (hwd 348 rfl)) (by decide) (t := .int) (t' := .int) (by decide) (by decide)))).ext E4).other W7 (Or.inr (slot_ne (Or.inl (hwd 166 rfl)) (Or.inl (hwd 170 rfl)) (by decide) (t := .int) (t' := (.array (.object "java/util/HashMap$Node"))) (by decide) (by decide))))
 have F11 := ((Fw3.ext E4).other W7 (Or.inr (slot_ne (Or.inl (hwd 348 rfl)) (Or.inl (hwd 170 rfl)) (by decide) (t := .int) (t' := (.array (.object "java/util/HashMap$Node"))) (by decide) (by decide))))
 have F12 := (((P_F_a0_loadFactor.other W3 (Or.inr (slot_ne (Or.inr (hwd 81 rfl)) (Or.inl (hwd 348 rfl)) (by decide) (t := .float) (t' := .int) (by decide) (by decide)))).ext E4).other W7 (Or.inr (slot_ne (Or.inr (hwd 81 rfl)) (Or.inl (hwd 170 rfl)) (by decide) (t := .float) (t' := (.array (.object "java/util/HashMap$Node"))) (by decide) (by decide))))
 have F13 := (((P_F_a0_values.other W3 (Or.inr (slot_ne (Or.inl (hwd 128 rfl)) (Or.inl (hwd 348 rfl)) (by decide) (t := (.object "java/util/Collection")) (t' := .int) (by decide) (by decide)))).ext E4).other W7 (Or.inr (slot_ne (Or.inl (hwd 128 rfl)) (Or.inl (hwd 170 rfl)) (by decide) (t := (.object "java/util/Collection")) (t' := (.array (.object "java/util/HashMap$Node"))) (by decide) (by decide))))
 have F14 := (Ax4.wr W7)
 have nq15 := ne_exa F14 F8 (by decide)
 have F16 := (V4.other W7 nq15)
 exact own_retR X7 hx hrt (by decide) rfl (y 35 rfl) hlk e7 ⟨_, _, rfl, N7, K7, F8, Fw7, F9, F10, F11, F12, F13, ge_b4, sz_b4, F14, F16, O4⟩ (by decide) (by decide)
theorem pd_342 : parseMethodDescriptor "()[Ljava/util/HashMap$Node;" = some ⟨[], some (.array (.object "java/util/HashMap$Node"))⟩ := by decide +kernel
theorem pd_351 : parseMethodDescriptor "(ILjava/lang/Object;Ljava/lang/Object;Ljava/util/HashMap$Node;)Ljava/util/HashMap$Node;" = some ⟨[.int, (.object "java/lang/Object"), (.object "java/lang/Object"), (.object "java/util/HashMap$Node")], some (.object "java/util/HashMap$Node")⟩ := by decide +kernel
theorem pd_372 : parseMethodDescriptor "(Z)V" = some ⟨[.boolean], none⟩ := by decide +kernel
theorem d49 : own_ds jdk_69_method_16_code [(0, .aload_n 0, 1), (1, .getfield 105, 3), (4, .dup, 1), (5, .astore 6, 2), (7, .ifnull 12, 3), (10, .aload 6, 2), (12, .arraylength, 1), (13, .dup, 1), (14, .istore 8, 2), (16, .ifCond .ne 13, 3), (19, .aload_n 0, 1), (20, .invokevirtual 117, 3), (23, .dup, 1), (24, .astore 6, 2), (26, .arraylength, 1), (27, .istore 8, 2), (29, .aload 6, 2), (31, .iload 8, 2), (33, .iconst 1, 1), (34, .isub, 1), (35, .iload_n 1, 1), (36, .iand, 1), (37, .dup, 1), (38, .istore 9, 2), (40, .aaload, 1), (41, .dup, 1), (42, .astore 7, 2), (44, .ifnonnull 19, 3), (47, .aload 6, 2), (49, .iload 9, 2), (51, .aload_n 0, 1), (52, .iload_n 1, 1), (53, .aload_n 2, 1), (54, .aload_n 3, 1), (55, .aconst_null, 1), (56, .invokevirtual 186, 3), (59, .aastore, 1), (60, .goto 199, 3), (259, .aload_n 0, 1), (260, .dup, 1), (261, .getfield 202, 3), (264, .iconst 1, 1), (265, .iadd, 1), (266, .putfield 202, 3), (269, .aload_n 0, 1), (270, .dup, 1), (271, .getfield 156, 3), (274, .iconst 1, 1), (275, .iadd, 1), (276, .dup_x1, 1), (277, .putfield 156, 3), (280, .aload_n 0, 1), (281, .getfield 88, 3), (284, .if_icmp .le 8, 3), (292, .aload_n 0, 1), (293, .iload 5, 2), (295, .invokevirtual 205, 3), (298, .aconst_null, 1), (299, .areturn, 1)] = true := by decide +kernel
theorem ef_pvN (m : MethodId) (a0 : Addr) (p1 : Int32) (a2 a3 : Addr) : entryFrame m #[(.ref a0), (.int p1), (.ref a2), (.ref a3), (.int 0), (.int 1)] 13 = mkF m 0 #[vR a0, vI p1, vR a2, vR a3, vI 0, vI 1, .unset, .unset, .unset, .unset, .unset, .unset, .unset] [] := by first | (simp [entryFrame, mkF, argsToLocals, Value.category]; done) | rfl
def QpvN (Z : State) (lf_a0 : UInt32) (a0 : Addr) (p1 : Int32) (a2 a3 : Addr) (h0 : Heap) (n0 : Nat) (v : Option Value) (h : Heap) (L : List Loc) : Prop := ∃ (b3 : Addr) (b4 : ClassId) (b19 : Addr), v = some .null ∧ Fr n0 L ∧ Keep h0 h [a0] ∧ Exa Z h a0 "java/util/HashMap" ∧ Fld Z h a0 cHM "table" "[Ljava/util/HashMap$Node;" (.ref b3) ∧ Fld Z h a0 cHM "size" "I" (.int 1) ∧ Fld Z h a0 cHM "modCount" "I" (.int 1) ∧ Fld Z h a0 cHM "threshold" "I" (.int 12) ∧ Fld Z h a0 cHM "loadFactor" "F" (.float lf_a0) ∧ Fld Z h a0 cAM "values" "Ljava/util/Collection;" .null ∧ (n0 ≤ b3) ∧ (h0.size ≤ b3) ∧ Exa Z h b3 "[Ljava/util/HashMap$Node;" ∧ qA Z h b3 b4 (.object "java/util/HashMap$Node") (16 : Int32) (fun i => (qu (fun _ => Value.null) (((15 : Int32) &&& p1)).toNatClampNeg (.ref b19)) i) ∧ (Ovr Z b4 "java/util/HashMap$Node") ∧ (n0 ≤ b19) ∧ (h0.size ≤ b19) ∧ Exa Z h b19 "java/util/HashMap$Node" ∧ Fld Z h b19 cND "hash" "I" (.int p1) ∧ Fld Z h b19 cND "key" "Ljava/lang/Object;" (.ref a2) ∧ Fld Z h b19 cND "value" "Ljava/lang/Object;" (.ref a3) ∧ Fld Z h b19 cND "next" "Ljava/util/HashMap$Node;" .null ∧ (b3 ≠ b19)
theorem rmpvN (l : Launch) (Z : State) (A0 : Array Value) (hw : ∀ d ∈ tables_1, d.before A0 Z = true) (ws : List Jvm.Cond) (lf_a0 : UInt32) (a0 : Addr) (p1 : Int32) (a2 a3 : Addr) (h0 : Heap) (n0 : Nat) (Z0 : n0 ≤ h0.size) (P_E_a0 : Exa Z h0 a0 "java/util/HashMap") (P_F_a0_table : Fld Z h0 a0 cHM "table" "[Ljava/util/HashMap$Node;" .null) (P_F_a0_size : Fld Z h0 a0 cHM "size" "I" (.int 0)) (P_F_a0_modCount : Fld Z h0 a0 cHM "modCount" "I" (.int 0)) (P_F_a0_threshold : Fld Z h0 a0 cHM "threshold" "I" (.int 0)) (P_F_a0_loadFactor : Fld Z h0 a0 cHM "loadFactor" "F" (.float lf_a0)) (P_F_a0_values : Fld Z h0 a0 cAM "values" "Ljava/util/Collection;" .null) (g_a0 : n0 ≤ a0) (hi_40_8 : (¬ ((15 : Int32) &&& p1) < 0) ∧ ((15 : Int32) &&& p1) < (16 : Int32)) :
  qM l Z (⟨"java/util/HashMap", "putVal", "(ILjava/lang/Object;Ljava/lang/Object;ZZ)Ljava/lang/Object;"⟩ : MethodName) jdk_69_method_16_code 13 (some (.object "java/lang/Object")) ws ({ frames := 3, cells := 2, slots := 20, locals := 47 } : Room) #[(.ref a0), (.int p1), (.ref a2), (.ref a3), (.int 0), (.int 1)] h0 (QpvN Z lf_a0 a0 p1 a2 a3 h0 n0) 2 20 := qe d49 (plainFor_of_name pn_iHm) (fun m => ef_pvN m a0 p1 a2 a3) fun p e s m below meth c s₁ hx y hml hlk hown hnm X0 e0 hZ hrt => by
 have hwd := qw hw
 have N0 := Fr.nil n0
 show qG p e below _ (s₁.setTop (mkF m 0 #[vR a0, vI p1, vR a2, vR a3, vI 0, vI 1, .unset, .unset, .unset, .unset, .unset, .unset, .unset] []))
 refine qb (fun _ k => XS.aloadN X0.here hx rfl (y 0 rfl) rfl rfl k) ?_
 obtain ⟨T1, X1, e1, st1⟩ := getF X0 hx hZ hown (host := "") (Or.inl (hwd 296 rfl)) Via.refl e0 P_F_a0_table (g := (mkF m 1 #[vR a0, vI p1, vR a2, vR a3, vI 0, vI 1, .unset, .unset, .unset, .unset, .unset, .unset, .unset] [(.ref a0)])) rfl rfl (y 1 rfl)
 refine qb st1 ?_
 refine qb (fun _ k => XS.dup X1.here hx rfl (y 2 rfl) rfl rfl k) ?_
 refine qb (fun _ k => XS.astore X1.here hx rfl (y 3 rfl) rfl rfl (l' := #[vR a0, vI p1, vR a2, vR a3, vI 0, vI 1, .val .null, .unset, .unset, .unset, .unset, .unset, .unset]) rfl k) ?_
 show qG p e below _ (T1.setTop (mkF m 7 #[vR a0, vI p1, vR a2, vR a3, vI 0, vI 1, .val .null, .unset, .unset, .unset, .unset, .unset, .unset] [.null]))
 refine qb (fun _ k => XS.ifnullYes X1.here hx rfl (pc0 := 7) (pc' := 19) rfl (y 4 rfl) rfl (by decide) (by decide) k) ?_
 show qG p e below _ (T1.setTop (mkF m 19 #[vR a0, vI p1, vR a2, vR a3, vI 0, vI 1, .val .null, .unset, .unset, .unset, .unset, .unset, .unset] []))
 refine qb (fun _ k => XS.aloadN X1.here hx rfl (y 10 rfl) rfl rfl k) ?_
 obtain ⟨_, T2, Lc2, X2, hQ2, st2⟩ := own_cV X1 hx hZ hown hml (rmrsz l Z A0 hw [] lf_a0 a0 h0 n0 Z0 P_E_a0 P_F_a0_table P_F_a0_size P_F_a0_modCount P_F_a0_threshold P_F_a0_loadFactor P_F_a0_values g_a0) (hwd 342 rfl) (hwd 344 rfl) (hwd 68 rfl) (hwd 346 rfl) (by decide) pd_342 e1 (hwd 343 rfl) (hwd 345 rfl) P_E_a0 (g := (mkF m 20 #[vR a0, vI p1, vR a2, vR a3, vI 0, vI 1, .val .null, .unset, .unset, .unset, .unset, .unset, .unset] [(.ref a0)])) (rest := []) rfl rfl rfl rfl (y 11 rfl) rfl
 obtain ⟨b3, b4, rfl, Nq2, Kq2, F5, F6, F7, F8, F9, F10, F11, hp12, hp13, F14, F15, hp16⟩ := hQ2
 have N2 := Fr.app N0 Nq2
 have K2 : Keep h0 T2.heap [a0] := (Keep.refl h0 [a0]).trans Kq2 ((allS (Or.inl (List.mem_of_getElem? (i := 0) rfl)) all0))
 have Z2 := ql Z0 Kq2.1
 have sz_b3 := ql (Keep.refl h0 [a0]).1 hp13
 refine qb st2 ?_
 show qG p e below _ (T2.setTop (mkF m 23 #[vR a0, vI p1, vR a2, vR a3, vI 0, vI 1, .val .null, .unset, .unset, .unset, .unset, .unset, .unset] [(.ref b3)]))
 refine qb (fun _ k => XS.dup X2.here hx rfl (y 12 rfl) rfl rfl k) ?_
 refine qb (fun _ k => XS.astore X2.here hx rfl (y 13 rfl) rfl rfl (l' := #[vR a0, vI p1, vR a2, vR a3, vI 0, vI 1, vR b3, .unset, .unset, .unset, .unset, .unset, .unset]) rfl k) ?_
 show qG p e below _ (T2.setTop (mkF m 26 #[vR a0, vI p1, vR a2, vR a3, vI 0, vI 1, vR b3, .unset, .unset, .unset, .unset, .unset, .unset] [(.ref b3)]))
 obtain ⟨cl17, Ar17, qq17, S17, M17, H17, G17⟩ := id F15
 refine qb (fun t k => X2.arraylength hx Ar17.1 (State.isArrayOf_alike hZ.alike Ar17.2.1) (g := (mkF m 26 #[vR a0, vI p1, vR a2, vR a3, vI 0, vI 1, vR b3, .unset, .unset, .unset, .unset, .unset, .unset] [(.ref b3)])) rfl rfl (y 14 rfl) _ k) ?_
 rw [len_of S17 M17]
 show qG p e below _ (T2.setTop (mkF m 27 #[vR a0, vI p1, vR a2, vR a3, vI 0, vI 1, vR b3, .unset, .unset, .unset, .unset, .unset, .unset] [(.int 16)]))
 refine qb (fun _ k => XS.istore X2.here hx rfl (y 15 rfl) rfl (l' := #[vR a0, vI p1, vR a2, vR a3, vI 0, vI 1, vR b3, .unset, vI 16, .unset, .unset, .unset, .unset]) rfl k) ?_
 show qG p e below _ (T2.setTop (mkF m 29 #[vR a0, vI p1, vR a2, vR a3, vI 0, vI 1, vR b3, .unset, vI 16, .unset, .unset, .unset, .unset] []))
 refine qb (fun _ k => XS.aload X2.here hx rfl (y 16 rfl) rfl rfl k) ?_
 refine qb (fun _ k => XS.iload X2.here hx rfl (y 17 rfl) rfl k) ?_
 refine qb (fun _ k => XS.iconst X2.here hx rfl (y 18 rfl) k) ?_
 refine qb (fun _ k => XS.isub X2.here hx rfl (y 19 rfl) rfl k) ?_
 refine qb (fun _ k => XS.iloadN X2.here hx rfl (y 20 rfl) rfl k) ?_
 refine qb (fun _ k => XS.iand X2.here hx rfl (y 21 rfl) rfl k) ?_
 refine qb (fun _ k => XS.dup X2.here hx rfl (y 22 rfl) rfl rfl k) ?_
 refine qb (fun _ k => XS.istore X2.here hx rfl (y 23 rfl) rfl (l' := #[vR a0, vI p1, vR a2, vR a3, vI 0, vI 1, vR b3, .unset, vI 16, vI ((15 : Int32) &&& p1), .unset, .unset, .unset]) rfl k) ?_
 show qG p e below _ (T2.setTop (mkF m 40 #[vR a0, vI p1, vR a2, vR a3, vI 0, vI 1, vR b3, .unset, vI 16, vI ((15 : Int32) &&& p1), .unset, .unset, .unset] [(.int ((15 : Int32) &&& p1)), (.ref b3)]))
 refine qb (own_ldR X2 hx hZ rfl F15 (j := ((15 : Int32) &&& p1)) hi_40_8 (g := (mkF m 40 #[vR a0, vI p1, vR a2, vR a3, vI 0, vI 1, vR b3, .unset, vI 16, vI ((15 : Int32) &&& p1), .unset, .unset, .unset] [(.int ((15 : Int32) &&& p1)), (.ref b3)])) rfl rfl (y 24 rfl)) ?_
 show qG p e below _ (T2.setTop (mkF m 41 #[vR a0, vI p1, vR a2, vR a3, vI 0, vI 1, vR b3, .unset, vI 16, vI ((15 : Int32) &&& p1), .unset, .unset, .unset] [.null]))
 refine qb (fun _ k => XS.dup X2.here hx rfl (y 25 rfl) rfl rfl k) ?_
 refine qb (fun _ k => XS.astore X2.here hx rfl (y 26 rfl) rfl rfl (l' := #[vR a0, vI p1, vR a2, vR a3, vI 0, vI 1, vR b3, .val .null, vI 16, vI ((15 : Int32) &&& p1), .unset, .unset, .unset]) rfl k) ?_
 show qG p e below _ (T2.setTop (mkF m 44 #[vR a0, vI p1, vR a2, vR a3, vI 0, vI 1, vR b3, .val .null, vI 16, vI ((15 : Int32) &&& p1), .unset, .unset, .unset] [.null]))
 refine qb (fun _ k => XS.ifnonnullNo X2.here hx rfl (y 27 rfl) rfl k) ?_
 show qG p e below _ (T2.setTop (mkF m 47 #[vR a0, vI p1, vR a2, vR a3, vI 0, vI 1, vR b3, .val .null, vI 16, vI ((15 : Int32) &&& p1), .unset, .unset, .unset] []))
 refine qb (fun _ k => XS.aload X2.here hx rfl (y 28 rfl) rfl rfl k) ?_
 refine qb (fun _ k => XS.iload X2.here hx rfl (y 29 rfl) rfl k) ?_
 refine qb (fun _ k => XS.aloadN X2.here hx rfl (y 30 rfl) rfl rfl k) ?_
 refine qb (fun _ k => XS.iloadN X2.here hx rfl (y 31 rfl) rfl k) ?_
 refine qb (fun _ k => XS.aloadN X2.here hx rfl (y 32 rfl) rfl rfl k) ?_
 refine qb (fun _ k => XS.aloadN X2.here hx rfl (y 33 rfl) rfl rfl k) ?_
 refine qb (fun _ k => XS.aconstNull X2.here hx rfl (y 34 rfl) k) ?_
 obtain ⟨_, T18, Lc18, X18, hQ18, st18⟩ := own_cV X2 hx hZ hown hml (rmnewN l Z A0 hw [] a0 p1 a2 a3 T2.heap n0 Z2 ) (hwd 351 rfl) (hwd 353 rfl) (hwd 68 rfl) (hwd 355 rfl) (by decide) pd_351 rfl (hwd 352 rfl) (hwd 354 rfl) F5 (g := (mkF m 56 #[vR a0, vI p1, vR a2, vR a3, vI 0, vI 1, vR b3, .val .null, vI 16, vI ((15 : Int32) &&& p1), .unset, .unset, .unset] [.null, (.ref a3), (.ref a2), (.int p1), (.ref a0), (.int ((15 : Int32) &&& p1)), (.ref b3)])) (rest := [(.int ((15 : Int32) &&& p1)), (.ref b3)]) rfl rfl rfl rfl (y 35 rfl) rfl
 obtain ⟨b19, rfl, Nq18, Kq18, hp20, hp21, F22, F23, F24, F25, F26⟩ := hQ18
 have N18 := Fr.app N2 Nq18
 have K18 : Keep h0 T18.heap [a0] := K2.trans Kq18 (all0)
 have Z18 := ql Z2 Kq18.1
 have sz_b19 := ql K2.1 hp21
 refine qb st18 ?_
 show qG p e below _ (T18.setTop (mkF m 59 #[vR a0, vI p1, vR a2, vR a3, vI 0, vI 1, vR b3, .val .null, vI 16, vI ((15 : Int32) &&& p1), .unset, .unset, .unset] [(.ref b19), (.int ((15 : Int32) &&& p1)), (.ref b3)]))
 have F27 := (F15.keep Kq18 nin0)
 obtain ⟨T28, h28, X28, e28, W28, V28, st28⟩ := own_stR X18 hx hZ rfl F27 hp16 (j := ((15 : Int32) &&& p1)) hi_40_8 (Ins.self F22) (g := (mkF m 59 #[vR a0, vI p1, vR a2, vR a3, vI 0, vI 1, vR b3, .val .null, vI 16, vI ((15 : Int32) &&& p1), .unset, .unset, .unset] [(.ref b19), (.int ((15 : Int32) &&& p1)), (.ref b3)])) rfl rfl (y 36 rfl)
 have K28 : Keep h0 h28 [a0] := K18.wr W28 (Or.inr sz_b3)
 have Z28 := ql Z18 (Keep.of_wr W28).1
 have N28 := Fr.snoc X28 N18 hp12
 refine qb st28 ?_
 show qG p e below _ (T28.setTop (mkF m 60 #[vR a0, vI p1, vR a2, vR a3, vI 0, vI 1, vR b3, .val .null, vI 16, vI ((15 : Int32) &&& p1), .unset, .unset, .unset] []))
 refine qb (fun _ k => XS.goto X28.here hx rfl (pc0 := 60) (pc' := 259) rfl (y 37 rfl) (by decide) (by decide) k) ?_
 show qG p e below _ (T28.setTop (mkF m 259 #[vR a0, vI p1, vR a2, vR a3, vI 0, vI 1, vR b3, .val .null, vI 16, vI ((15 : Int32) &&& p1), .unset, .unset, .unset] []))
 refine qb (fun _ k => XS.aloadN X28.here hx rfl (y 38 rfl) rfl rfl k) ?_
 refine qb (fun _ k => XS.dup X28.here hx rfl (y 39 rfl) rfl rfl k) ?_
 have F30 := ((F5.keep Kq18).wr W28)
 have F31 := ((F14.keep Kq18).wr W28)
 have nq29 := ne_exa F30 F31 (by decide)
 have F32 := ((F8.keep Kq18 nin0).other W28 (Or.inl nq29))
 obtain ⟨T33, X33, e33, st33⟩ := getF X28 hx hZ hown (host := "") (Or.inl (hwd 371 rfl)) Via.refl e28 F32 (g := (mkF m 261 #[vR a0, vI p1, vR a2, vR a3, vI 0, vI 1, vR b3, .val .null, vI 16, vI ((15 : Int32) &&& p1), .unset, .unset, .unset] [(.ref a0), (.ref a0)])) rfl rfl (y 40 rfl)
 refine qb st33 ?_
 refine qb (fun _ k => XS.iconst X33.here hx rfl (y 41 rfl) k) ?_
 refine qb (fun _ k => XS.iadd X33.here hx rfl (y 42 rfl) rfl k) ?_
 obtain ⟨T34, h34, X34, e34, W34, st34⟩ := putF X33 hx hZ hown (host := "") (Or.inl (hwd 371 rfl)) Via.refl e33 F32 F30 (Or.inl (hwd 166 rfl)) (hwd 67 rfl) (ty := .int) (by decide) rfl rfl (g := (mkF m 266 #[vR a0, vI p1, vR a2, vR a3, vI 0, vI 1, vR b3, .val .null, vI 16, vI ((15 : Int32) &&& p1), .unset, .unset, .unset] [(.int 1), (.ref a0)])) rfl rfl (y 43 rfl)
 have Fw34 : Fld Z h34 a0 cHM "modCount" "I" (.int 1) := F32.same W34
 have K34 : Keep h0 h34 [a0] := K28.wr W34 (Or.inl (List.mem_of_getElem? (i := 0) rfl))
 have Z34 := ql Z28 (Keep.of_wr W34).1
 have N34 := Fr.snoc X34 N28 g_a0
 refine qb st34 ?_
 show qG p e below _ (T34.setTop (mkF m 269 #[vR a0, vI p1, vR a2, vR a3, vI 0, vI 1, vR b3, .val .null, vI 16, vI ((15 : Int32) &&& p1), .unset, .unset, .unset] []))
 refine qb (fun _ k => XS.aloadN X34.here hx rfl (y 44 rfl) rfl rfl k) ?_
 refine qb (fun _ k => XS.dup X34.here hx rfl (y 45 rfl) rfl rfl k) ?_
 have F35 := (((F7.keep Kq18 nin0).other W28 (Or.inl nq29)).other W34 (Or.inr (slot_ne (Or.inl (hwd 117 rfl)) (Or.inl (hwd 166 rfl)) (by decide) (t := .int) (t' := .int) (by decide) (by decide))))
 obtain ⟨T36, X36, e36, st36⟩ := getF X34 hx hZ hown (host := "") (Or.inl (hwd 116 rfl)) Via.refl e34 F35 (g := (mkF m 271 #[vR a0, vI p1, vR a2, vR a3, vI 0, vI 1, vR b3, .val .null, vI 16, vI ((15 : Int32) &&& p1), .unset, .unset, .unset] [(.ref a0), (.ref a0)])) rfl rfl (y 46 rfl)
 refine qb st36 ?_
 refine qb (fun _ k => XS.iconst X36.here hx rfl (y 47 rfl) k) ?_
 refine qb (fun _ k => XS.iadd X36.here hx rfl (y 48 rfl) rfl k) ?_
 refine qb (fun _ k => XS.dupX1 X36.here hx rfl (y 49 rfl) rfl rfl rfl k) ?_
 show qG p e below _ (T36.setTop (mkF m 277 #[vR a0, vI p1, vR a2, vR a3, vI 0, vI 1, vR b3, .val .null, vI 16, vI ((15 : Int32) &&& p1), .unset, .unset, .unset] [(.int 1), (.ref a0), (.int 1)]))
 have F37 := (F30.wr W34)
 obtain ⟨T38, h38, X38, e38, W38, st38⟩ := putF X36 hx hZ hown (host := "") (Or.inl (hwd 116 rfl)) Via.refl e36 F35 F37 (Or.inl (hwd 117 rfl)) (hwd 67 rfl) (ty := .int) (by decide) rfl rfl (g := (mkF m 277 #[vR a0, vI p1, vR a2, vR a3, vI 0, vI 1, vR b3, .val .null, vI 16, vI ((15 : Int32) &&& p1), .unset, .unset, .unset] [(.int 1), (.ref a0), (.int 1)])) rfl rfl (y 50 rfl)
 have Fw38 : Fld Z h38 a0 cHM "size" "I" (.int 1) := F35.same W38
 have K38 : Keep h0 h38 [a0] := K34.wr W38 (Or.inl (List.mem_of_getElem? (i := 0) rfl))
 have Z38 := ql Z34 (Keep.of_wr W38).1
 have N38 := Fr.snoc X38 N34 g_a0
 refine qb st38 ?_
 show qG p e below _ (T38.setTop (mkF m 280 #[vR a0, vI p1, vR a2, vR a3, vI 0, vI 1, vR b3, .val .null, vI 16, vI ((15 : Int32) &&& p1), .unset, .unset, .unset] [(.int 1)]))
 refine qb (fun _ k => XS.aloadN X38.here hx rfl (y 51 rfl) rfl rfl k) ?_
 have F39 := ((((F9.keep Kq18 nin0).other W28 (Or.inl nq29)).other W34 (Or.inr (slot_ne (Or.inl (hwd 348 rfl)) (Or.inl (hwd 166 rfl)) (by decide) (t := .int) (t' := .int) (by decide) (by decide)))).other W38 (Or.inr (slot_ne (Or.inl (hwd 348 rfl)) (Or.inl (hwd 117 rfl)) (by decide) (t := .int) (t' := .int) (by decide) (by decide))))
 obtain ⟨T40, X40, e40, st40⟩ := getF X38 hx hZ hown (host := "") (Or.inl (hwd 347 rfl)) Via.refl e38 F39 (g := (mkF m 281 #[vR a0, vI p1, vR a2, vR a3, vI 0, vI 1, vR b3, .val .null, vI 16, vI ((15 : Int32) &&& p1), .unset, .unset, .unset] [(.ref a0), (.int 1)])) rfl rfl (y 52 rfl)
 refine qb st40 ?_
 refine qb (fun _ k => XS.icmpYes X40.here hx rfl (pc0 := 284) (pc' := 292) rfl (y 53 rfl) rfl (flt (by decide : ¬ ((12 : Int32) < (1 : Int32)))).2.2.2 (by decide) (by decide) k) ?_
 show qG p e below _ (T40.setTop (mkF m 292 #[vR a0, vI p1, vR a2, vR a3, vI 0, vI 1, vR b3, .val .null, vI 16, vI ((15 : Int32) &&& p1), .unset, .unset, .unset] []))
 refine qb (fun _ k => XS.aloadN X40.here hx rfl (y 54 rfl) rfl rfl k) ?_
 refine qb (fun _ k => XS.iload X40.here hx rfl (y 55 rfl) rfl k) ?_
 have F42 := (F37.wr W38)
 obtain ⟨_, T41, Lc41, X41, hQ41, st41⟩ := own_cV X40 hx hZ hown hml (rmani l Z A0 hw [] a0 (1 : Int32) h38 n0 Z38 ) (hwd 372 rfl) (hwd 374 rfl) (hwd 68 rfl) (hwd 376 rfl) (by decide) pd_372 e40 (hwd 373 rfl) (hwd 375 rfl) F42 (g := (mkF m 295 #[vR a0, vI p1, vR a2, vR a3, vI 0, vI 1, vR b3, .val .null, vI 16, vI ((15 : Int32) &&& p1), .unset, .unset, .unset] [(.int 1), (.ref a0)])) (rest := []) rfl rfl rfl rfl (y 56 rfl) rfl
 obtain ⟨rfl, Nq41, eq41⟩ := hQ41
 have N41 := Fr.app N38 Nq41
 refine qb st41 ?_
 show qG p e below _ (T41.setTop (mkF m 298 #[vR a0, vI p1, vR a2, vR a3, vI 0, vI 1, vR b3, .val .null, vI 16, vI ((15 : Int32) &&& p1), .unset, .unset, .unset] []))
 refine qb (fun _ k => XS.aconstNull X41.here hx rfl (y 57 rfl) k) ?_
 have F43 := ((((F6.keep Kq18 nin0).other W28 (Or.inl nq29)).other W34 (Or.inr (slot_ne (Or.inl (hwd 170 rfl)) (Or.inl (hwd 166 rfl)) (by decide) (t := (.array (.object "java/util/HashMap$Node"))) (t' := .int) (by decide) (by decide)))).other W38 (Or.inr (slot_ne (Or.inl (hwd 170 rfl)) (Or.inl (hwd 117 rfl)) (by decide) (t := (.array (.object "java/util/HashMap$Node"))) (t' := .int) (by decide) (by decide))))
 have F44 := (Fw34.other W38 (Or.inr (slot_ne (Or.inl (hwd 166 rfl)) (Or.inl (hwd 117 rfl)) (by decide) (t := .int) (t' := .int) (by decide) (by decide))))
 have F45 := ((((F10.keep Kq18 nin0).other W28 (Or.inl nq29)).other W34 (Or.inr (slot_ne (Or.inr (hwd 81 rfl)) (Or.inl (hwd 166 rfl)) (by decide) (t := .float) (t' := .int) (by decide) (by decide)))).other W38 (Or.inr (slot_ne (Or.inr (hwd 81 rfl)) (Or.inl (hwd 117 rfl)) (by decide) (t := .float) (t' := .int) (by decide) (by decide))))
 have F46 := ((((F11.keep Kq18 nin0).other W28 (Or.inl nq29)).other W34 (Or.inr (slot_ne (Or.inl (hwd 128 rfl)) (Or.inl (hwd 166 rfl)) (by decide) (t := (.object "java/util/Collection")) (t' := .int) (by decide) (by decide)))).other W38 (Or.inr (slot_ne (Or.inl (hwd 128 rfl)) (Or.inl (hwd 117 rfl)) (by decide) (t := (.object "java/util/Collection")) (t' := .int) (by decide) (by decide))))
 have F47 := ((F31.wr W34).wr W38)
 have F48 := ((V28.other W34 (Ne.symm nq29)).other W38 (Ne.symm nq29))
 have F49 := (((F22.wr W28).wr W34).wr W38)
 have nq50 := ne_exa F49 F47 (by decide)
 have nq51 := ne_exa F49 F42 (by decide)
 have F52 := (((F23.other W28 (Or.inl nq50)).other W34 (Or.inl nq51)).other W38 (Or.inl nq51))
 have F53 := (((F24.other W28 (Or.inl nq50)).other W34 (Or.inl nq51)).other W38 (Or.inl nq51))
 have F54 := (((F25.other W28 (Or.inl nq50)).other W34 (Or.inl nq51)).other W38 (Or.inl nq51))
 have F55 := (((F26.other W28 (Or.inl nq50)).other W34 (Or.inl nq51)).other W38 (Or.inl nq51))
 exact own_retR X41 hx hrt (by decide) rfl (y 58 rfl) hlk eq41 ⟨_, _, _, rfl, N41, K38, F42, F43, Fw38, F44, F39, F45, F46, hp12, sz_b3, F47, F48, hp16, hp20, sz_b19, F49, F52, F53, F54, F55, (Ne.symm nq50)⟩ (by decide) (by decide)
theorem ef_pvT (m : MethodId) (a0 : Addr) (p1 : Int32) (a2 a3 : Addr) : entryFrame m #[(.ref a0), (.int p1), (.ref a2), (.ref a3), (.int 0), (.int 1)] 13 = mkF m 0 #[vR a0, vI p1, vR a2, vR a3, vI 0, vI 1, .unset, .unset, .unset, .unset, .unset, .unset, .unset] [] := by first | (simp [entryFrame, mkF, argsToLocals, Value.category]; done) | rfl
def QpvT (Z : State) (lf_a0 : UInt32) (t_a0 : Addr) (sz_a0 : Int32) (k_t_a0 : ClassId) (fn_t_a0 : Nat → Value) (a0 : Addr) (p1 : Int32) (a2 a3 : Addr) (h0 : Heap) (n0 : Nat) (v : Option Value) (h : Heap) (L : List Loc) : Prop := ∃ (b4 : Addr), v = some .null ∧ Fr n0 L ∧ Keep h0 h [t_a0, a0] ∧ qA Z h t_a0 k_t_a0 (.object "java/util/HashMap$Node") (16 : Int32) (fun i => (qu fn_t_a0 (((15 : Int32) &&& p1)).toNatClampNeg (.ref b4)) i) ∧ Exa Z h a0 "java/util/HashMap" ∧ Fld Z h a0 cHM "table" "[Ljava/util/HashMap$Node;" (.ref t_a0) ∧ Fld Z h a0 cHM "size" "I" (.int (sz_a0 + (1 : Int32))) ∧ Fld Z h a0 cHM "modCount" "I" (.int (sz_a0 + (1 : Int32))) ∧ Fld Z h a0 cHM "threshold" "I" (.int 12) ∧ Fld Z h a0 cHM "loadFactor" "F" (.float lf_a0) ∧ Fld Z h a0 cAM "values" "Ljava/util/Collection;" .null ∧ (n0 ≤ b4) ∧ (h0.size ≤ b4) ∧ Exa Z h b4 "java/util/HashMap$Node" ∧ Fld Z h b4 cND "hash" "I" (.int p1) ∧ Fld Z h b4 cND "key" "Ljava/lang/Object;" (.ref a2) ∧ Fld Z h b4 cND "value" "Ljava/lang/Object;" (.ref a3) ∧ Fld Z h b4 cND "next" "Ljava/util/HashMap$Node;" .null
theorem rmpvT (l : Launch) (Z : State) (A0 : Array Value) (hw : ∀ d ∈ tables_1, d.before A0 Z = true) (ws : List Jvm.Cond) (lf_a0 : UInt32) (t_a0 : Addr) (sz_a0 : Int32) (k_t_a0 : ClassId) (fn_t_a0 : Nat → Value) (a0 : Addr) (p1 : Int32) (a2 a3 : Addr) (h0 : Heap) (n0 : Nat) (Z0 : n0 ≤ h0.size) (P_E_a0 : Exa Z h0 a0 "java/util/HashMap") (P_F_a0_table : Fld Z h0 a0 cHM "table" "[Ljava/util/HashMap$Node;" (.ref t_a0)) (P_F_a0_size : Fld Z h0 a0 cHM "size" "I" (.int sz_a0)) (P_F_a0_modCount : Fld Z h0 a0 cHM "modCount" "I" (.int sz_a0)) (P_F_a0_threshold : Fld Z h0 a0 cHM "threshold" "I" (.int 12)) (P_F_a0_loadFactor : Fld Z h0 a0 cHM "loadFactor" "F" (.float lf_a0)) (P_F_a0_values : Fld Z h0 a0 cAM "values" "Ljava/util/Collection;" .null) (P_V_t_a0 : qA Z h0 t_a0 k_t_a0 (.object "java/util/HashMap$Node") (16 : Int32) (fun i => fn_t_a0 i)) (hO_k_t_a0 : Ovr Z k_t_a0 "java/util/HashMap$Node") (hnul : (fn_t_a0 (((15 : Int32) &&& p1)).toNatClampNeg) = .null) (hi_40_10 : (¬ ((15 : Int32) &&& p1) < 0) ∧ ((15 : Int32) &&& p1) < (16 : Int32)) (g_t_a0 : n0 ≤ t_a0) (g_a0 : n0 ≤ a0) (ha284 : ¬ ((12 : Int32) < (sz_a0 + (1 : Int32)))) :
  qM l Z (⟨"java/util/HashMap", "putVal", "(ILjava/lang/Object;Ljava/lang/Object;ZZ)Ljava/lang/Object;"⟩ : MethodName) jdk_69_method_16_code 13 (some (.object "java/lang/Object")) ws ({ frames := 3, cells := 1, slots := 4, locals := 47 } : Room) #[(.ref a0), (.int p1), (.ref a2), (.ref a3), (.int 0), (.int 1)] h0 (QpvT Z lf_a0 t_a0 sz_a0 k_t_a0 fn_t_a0 a0 p1 a2 a3 h0 n0) 1 4 := qe d49 (plainFor_of_name pn_iHm) (fun m => ef_pvT m a0 p1 a2 a3) fun p e s m below meth c s₁ hx y hml hlk hown hnm X0 e0 hZ hrt => by
 have hwd := qw hw
 have N0 := Fr.nil n0
 show qG p e below _ (s₁.setTop (mkF m 0 #[vR a0, vI p1, vR a2, vR a3, vI 0, vI 1, .unset, .unset, .unset, .unset, .unset, .unset, .unset] []))
 refine qb (fun _ k => XS.aloadN X0.here hx rfl (y 0 rfl) rfl rfl k) ?_
 obtain ⟨T1, X1, e1, st1⟩ := getF X0 hx hZ hown (host := "") (Or.inl (hwd 296 rfl)) Via.refl e0 P_F_a0_table (g := (mkF m 1 #[vR a0, vI p1, vR a2, vR a3, vI 0, vI 1, .unset, .unset, .unset, .unset, .unset, .unset, .unset] [(.ref a0)])) rfl rfl (y 1 rfl)
 refine qb st1 ?_
 refine qb (fun _ k => XS.dup X1.here hx rfl (y 2 rfl) rfl rfl k) ?_
 refine qb (fun _ k => XS.astore X1.here hx rfl (y 3 rfl) rfl rfl (l' := #[vR a0, vI p1, vR a2, vR a3, vI 0, vI 1, vR t_a0, .unset, .unset, .unset, .unset, .unset, .unset]) rfl k) ?_
 show qG p e below _ (T1.setTop (mkF m 7 #[vR a0, vI p1, vR a2, vR a3, vI 0, vI 1, vR t_a0, .unset, .unset, .unset, .unset, .unset, .unset] [(.ref t_a0)]))
 refine qb (fun _ k => XS.ifnullNo X1.here hx rfl (y 4 rfl) rfl k) ?_
 show qG p e below _ (T1.setTop (mkF m 10 #[vR a0, vI p1, vR a2, vR a3, vI 0, vI 1, vR t_a0, .unset, .unset, .unset, .unset, .unset, .unset] []))
 refine qb (fun _ k => XS.aload X1.here hx rfl (y 5 rfl) rfl rfl k) ?_
 obtain ⟨cl2, Ar2, qq2, S2, M2, H2, G2⟩ := id P_V_t_a0
 refine qb (fun t k => X1.arraylength hx (by rw [e1]; exact Ar2.1) (State.isArrayOf_alike hZ.alike Ar2.2.1) (g := (mkF m 12 #[vR a0, vI p1, vR a2, vR a3, vI 0, vI 1, vR t_a0, .unset, .unset, .unset, .unset, .unset, .unset] [(.ref t_a0)])) rfl rfl (y 6 rfl) _ k) ?_
 rw [len_of S2 M2]
 show qG p e below _ (T1.setTop (mkF m 13 #[vR a0, vI p1, vR a2, vR a3, vI 0, vI 1, vR t_a0, .unset, .unset, .unset, .unset, .unset, .unset] [(.int 16)]))
 refine qb (fun _ k => XS.dup X1.here hx rfl (y 7 rfl) rfl rfl k) ?_
 refine qb (fun _ k => XS.istore X1.here hx rfl (y 8 rfl) rfl (l' := #[vR a0, vI p1, vR a2, vR a3, vI 0, vI 1, vR t_a0, .unset, vI 16, .unset, .unset, .unset, .unset]) rfl k) ?_
 show qG p e below _ (T1.setTop (mkF m 16 #[vR a0, vI p1, vR a2, vR a3, vI 0, vI 1, vR t_a0, .unset, vI 16, .unset, .unset, .unset, .unset] [(.int 16)]))
 refine qb (fun _ k => XS.ifYes X1.here hx rfl (pc0 := 16) (pc' := 29) rfl (y 9 rfl) rfl ((if0 _ _).trans (feq (by decide : ¬ ((16 : Int32) = (0 : Int32)))).2) (by decide) (by decide) k) ?_
 show qG p e below _ (T1.setTop (mkF m 29 #[vR a0, vI p1, vR a2, vR a3, vI 0, vI 1, vR t_a0, .unset, vI 16, .unset, .unset, .unset, .unset] []))
 refine qb (fun _ k => XS.aload X1.here hx rfl (y 16 rfl) rfl rfl k) ?_
 refine qb (fun _ k => XS.iload X1.here hx rfl (y 17 rfl) rfl k) ?_
 refine qb (fun _ k => XS.iconst X1.here hx rfl (y 18 rfl) k) ?_
 refine qb (fun _ k => XS.isub X1.here hx rfl (y 19 rfl) rfl k) ?_
 refine qb (fun _ k => XS.iloadN X1.here hx rfl (y 20 rfl) rfl k) ?_
 refine qb (fun _ k => XS.iand X1.here hx rfl (y 21 rfl) rfl k) ?_
 refine qb (fun _ k => XS.dup X1.here hx rfl (y 22 rfl) rfl rfl k) ?_
 refine qb (fun _ k => XS.istore X1.here hx rfl (y 23 rfl) rfl (l' := #[vR a0, vI p1, vR a2, vR a3, vI 0, vI 1, vR t_a0, .unset, vI 16, vI ((15 : Int32) &&& p1), .unset, .unset, .unset]) rfl k) ?_
 show qG p e below _ (T1.setTop (mkF m 40 #[vR a0, vI p1, vR a2, vR a3, vI 0, vI 1, vR t_a0, .unset, vI 16, vI ((15 : Int32) &&& p1), .unset, .unset, .unset] [(.int ((15 : Int32) &&& p1)), (.ref t_a0)]))
 refine qb (own_ldR X1 hx hZ e1 P_V_t_a0 (j := ((15 : Int32) &&& p1)) hi_40_10 (g := (mkF m 40 #[vR a0, vI p1, vR a2, vR a3, vI 0, vI 1, vR t_a0, .unset, vI 16, vI ((15 : Int32) &&& p1), .unset, .unset, .unset] [(.int ((15 : Int32) &&& p1)), (.ref t_a0)])) rfl rfl (y 24 rfl)) ?_
 show qG p e below _ (T1.setTop (mkF m 41 #[vR a0, vI p1, vR a2, vR a3, vI 0, vI 1, vR t_a0, .unset, vI 16, vI ((15 : Int32) &&& p1), .unset, .unset, .unset] [(fn_t_a0 (((15 : Int32) &&& p1)).toNatClampNeg)]))
 rw [hnul]
 show qG p e below _ (T1.setTop (mkF m 41 #[vR a0, vI p1, vR a2, vR a3, vI 0, vI 1, vR t_a0, .unset, vI 16, vI ((15 : Int32) &&& p1), .unset, .unset, .unset] [.null]))
 refine qb (fun _ k => XS.dup X1.here hx rfl (y 25 rfl) rfl rfl k) ?_
 refine qb (fun _ k => XS.astore X1.here hx rfl (y 26 rfl) rfl rfl (l' := #[vR a0, vI p1, vR a2, vR a3, vI 0, vI 1, vR t_a0, .val .null, vI 16, vI ((15 : Int32) &&& p1), .unset, .unset, .unset]) rfl k) ?_
 show qG p e below _ (T1.setTop (mkF m 44 #[vR a0, vI p1, vR a2, vR a3, vI 0, vI 1, vR t_a0, .val .null, vI 16, vI ((15 : Int32) &&& p1), .unset, .unset, .unset] [.null]))
 refine qb (fun _ k => XS.ifnonnullNo X1.here hx rfl (y 27 rfl) rfl k) ?_
 show qG p e below _ (T1.setTop (mkF m 47 #[vR a0, vI p1, vR a2, vR a3, vI 0, vI 1, vR t_a0, .val .null, vI 16, vI ((15 : Int32) &&& p1), .unset, .unset, .unset] []))
 refine qb (fun _ k => XS.aload X1.here hx rfl (y 28 rfl) rfl rfl k) ?_
 refine qb (fun _ k => XS.iload X1.here hx rfl (y 29 rfl) rfl k) ?_
 refine qb (fun _ k => XS.aloadN X1.here hx rfl (y 30 rfl) rfl rfl k) ?_
 refine qb (fun _ k => XS.iloadN X1.here hx rfl (y 31 rfl) rfl k) ?_
 refine qb (fun _ k => XS.aloadN X1.here hx rfl (y 32 rfl) rfl rfl k) ?_
 refine qb (fun _ k => XS.aloadN X1.here hx rfl (y 33 rfl) rfl rfl k) ?_
 refine qb (fun _ k => XS.aconstNull X1.here hx rfl (y 34 rfl) k) ?_
 obtain ⟨_, T3, Lc3, X3, hQ3, st3⟩ := own_cV X1 hx hZ hown hml (rmnewN l Z A0 hw [] a0 p1 a2 a3 h0 n0 Z0 ) (hwd 351 rfl) (hwd 353 rfl) (hwd 68 rfl) (hwd 355 rfl) (by decide) pd_351 e1 (hwd 352 rfl) (hwd 354 rfl) P_E_a0 (g := (mkF m 56 #[vR a0, vI p1, vR a2, vR a3, vI 0, vI 1, vR t_a0, .val .null, vI 16, vI ((15 : Int32) &&& p1), .unset, .unset, .unset] [.null, (.ref a3), (.ref a2), (.int p1), (.ref a0), (.int ((15 : Int32) &&& p1)), (.ref t_a0)])) (rest := [(.int ((15 : Int32) &&& p1)), (.ref t_a0)]) rfl rfl rfl rfl (y 35 rfl) rfl
 obtain ⟨b4, rfl, Nq3, Kq3, hp5, hp6, F7, F8, F9, F10, F11⟩ := hQ3
 have N3 := Fr.app N0 Nq3
 have K3 : Keep h0 T3.heap [t_a0, a0] := (Keep.refl h0 [t_a0, a0]).trans Kq3 (all0)
 have Z3 := ql Z0 Kq3.1
 have sz_b4 := ql (Keep.refl h0 [t_a0, a0]).1 hp6
 refine qb st3 ?_
 show qG p e below _ (T3.setTop (mkF m 59 #[vR a0, vI p1, vR a2, vR a3, vI 0, vI 1, vR t_a0, .val .null, vI 16, vI ((15 : Int32) &&& p1), .unset, .unset, .unset] [(.ref b4), (.int ((15 : Int32) &&& p1)), (.ref t_a0)]))
 have F12 := (P_V_t_a0.keep Kq3 nin0)
 obtain ⟨T13, h13, X13, e13, W13, V13, st13⟩ := own_stR X3 hx hZ rfl F12 hO_k_t_a0 (j := ((15 : Int32) &&& p1)) hi_40_10 (Ins.self F7) (g := (mkF m 59 #[vR a0, vI p1, vR a2, vR a3, vI 0, vI 1, vR t_a0, .val .null, vI 16, vI ((15 : Int32) &&& p1), .unset, .unset, .unset] [(.ref b4), (.int ((15 : Int32) &&& p1)), (.ref t_a0)])) rfl rfl (y 36 rfl)
 have K13 : Keep h0 h13 [t_a0, a0] := K3.wr W13 (Or.inl (List.mem_of_getElem? (i := 0) rfl))
 have Z13 := ql Z3 (Keep.of_wr W13).1
 have N13 := Fr.snoc X13 N3 g_t_a0
 refine qb st13 ?_
 show qG p e below _ (T13.setTop (mkF m 60 #[vR a0, vI p1, vR a2, vR a3, vI 0, vI 1, vR t_a0, .val .null, vI 16, vI ((15 : Int32) &&& p1), .unset, .unset, .unset] []))
 refine qb (fun _ k => XS.goto X13.here hx rfl (pc0 := 60) (pc' := 259) rfl (y 37 rfl) (by decide) (by decide) k) ?_
 show qG p e below _ (T13.setTop (mkF m 259 #[vR a0, vI p1, vR a2, vR a3, vI 0, vI 1, vR t_a0, .val .null, vI 16, vI ((15 : Int32) &&& p1), .unset, .unset, .unset] []))
 refine qb (fun _ k => XS.aloadN X13.here hx rfl (y 38 rfl) rfl rfl k) ?_
 refine qb (fun _ k => XS.dup X13.here hx rfl (y 39 rfl) rfl rfl k) ?_
 have F14 := ((P_F_a0_modCount.keep Kq3 nin0).other W13 (Or.inl (own_neArr ((P_E_a0.keep Kq3).wr W13) (hwd 67 rfl) V13)))
 obtain ⟨T15, X15, e15, st15⟩ := getF X13 hx hZ hown (host := "") (Or.inl (hwd 371 rfl)) Via.refl e13 F14 (g := (mkF m 261 #[vR a0, vI p1, vR a2, vR a3, vI 0, vI 1, vR t_a0, .val .null, vI 16, vI ((15 : Int32) &&& p1), .unset, .unset, .unset] [(.ref a0), (.ref a0)])) rfl rfl (y 40 rfl)
 refine qb st15 ?_
 refine qb (fun _ k => XS.iconst X15.here hx rfl (y 41 rfl) k) ?_
 refine qb (fun _ k => XS.iadd X15.here hx rfl (y 42 rfl) rfl k) ?_
 have F16 := ((P_E_a0.keep Kq3).wr W13)
 obtain ⟨T17, h17, X17, e17, W17, st17⟩ := putF X15 hx hZ hown (host := "") (Or.inl (hwd 371 rfl)) Via.refl e15 F14 F16 (Or.inl (hwd 166 rfl)) (hwd 67 rfl) (ty := .int) (by decide) rfl rfl (g := (mkF m 266 #[vR a0, vI p1, vR a2, vR a3, vI 0, vI 1, vR t_a0, .val .null, vI 16, vI ((15 : Int32) &&& p1), .unset, .unset, .unset] [(.int (sz_a0 + (1 : Int32))), (.ref a0)])) rfl rfl (y 43 rfl)
 have Fw17 : Fld Z h17 a0 cHM "modCount" "I" (.int (sz_a0 + (1 : Int32))) := F14.same W17
 have K17 : Keep h0 h17 [t_a0, a0] := K13.wr W17 (Or.inl (List.mem_of_getElem? (i := 1) rfl))
 have Z17 := ql Z13 (Keep.of_wr W17).1
 have N17 := Fr.snoc X17 N13 g_a0
 refine qb st17 ?_
 show qG p e below _ (T17.setTop (mkF m 269 #[vR a0, vI p1, vR a2, vR a3, vI 0, vI 1, vR t_a0, .val .null, vI 16, vI ((15 : Int32) &&& p1), .unset, .unset, .unset] []))
 refine qb (fun _ k => XS.aloadN X17.here hx rfl (y 44 rfl) rfl rfl k) ?_
 refine qb (fun _ k => XS.dup X17.here hx rfl (y 45 rfl) rfl rfl k) ?_
 have F18 := (((P_F_a0_size.keep Kq3 nin0).other W13 (Or.inl (own_neArr ((P_E_a0.keep Kq3).wr W13) (hwd 67 rfl) V13))).other W17 (Or.inr (slot_ne (Or.inl (hwd 117 rfl)) (Or.inl (hwd 166 rfl)) (by decide) (t := .int) (t' := .int) (by decide) (by decide))))
 obtain ⟨T19, X19, e19, st19⟩ := getF X17 hx hZ hown (host := "") (Or.inl (hwd 116 rfl)) Via.refl e17 F18 (g := (mkF m 271 #[vR a0, vI p1, vR a2, vR a3, vI 0, vI 1, vR t_a0, .val .null, vI 16, vI ((15 : Int32) &&& p1), .unset, .unset, .unset] [(.ref a0), (.ref a0)])) rfl rfl (y 46 rfl)
 refine qb st19 ?_
 refine qb (fun _ k => XS.iconst X19.here hx rfl (y 47 rfl) k) ?_
 refine qb (fun _ k => XS.iadd X19.here hx rfl (y 48 rfl) rfl k) ?_
 refine qb (fun _ k => XS.dupX1 X19.here hx rfl (y 49 rfl) rfl rfl rfl k) ?_
 show qG p e below _ (T19.setTop (mkF m 277 #[vR a0, vI p1, vR a2, vR a3, vI 0, vI 1, vR t_a0, .val .null, vI 16, vI ((15 : Int32) &&& p1), .unset, .unset, .unset] [(.int (sz_a0 + (1 : Int32))), (.ref a0), (.int (sz_a0 + (1 : Int32)))]))
 have F20 := (F16.wr W17)
 obtain ⟨T21, h21, X21, e21, W21, st21⟩ := putF X19 hx hZ hown (host := "") (Or.inl (hwd 116 rfl)) Via.refl e19 F18 F20 (Or.inl (hwd 117 rfl)) (hwd 67 rfl) (ty := .int) (by decide) rfl rfl (g := (mkF m 277 #[vR a0, vI p1, vR a2, vR a3, vI 0, vI 1, vR t_a0, .val .null, vI 16, vI ((15 : Int32) &&& p1), .unset, .unset, .unset] [(.int (sz_a0 + (1 : Int32))), (.ref a0), (.int (sz_a0 + (1 : Int32)))])) rfl rfl (y 50 rfl)
 have Fw21 : Fld Z h21 a0 cHM "size" "I" (.int (sz_a0 + (1 : Int32))) := F18.same W21
 have K21 : Keep h0 h21 [t_a0, a0] := K17.wr W21 (Or.inl (List.mem_of_getElem? (i := 1) rfl))
 have Z21 := ql Z17 (Keep.of_wr W21).1
 have N21 := Fr.snoc X21 N17 g_a0
 refine qb st21 ?_
 show qG p e below _ (T21.setTop (mkF m 280 #[vR a0, vI p1, vR a2, vR a3, vI 0, vI 1, vR t_a0, .val .null, vI 16, vI ((15 : Int32) &&& p1), .unset, .unset, .unset] [(.int (sz_a0 + (1 : Int32)))]))
 refine qb (fun _ k => XS.aloadN X21.here hx rfl (y 51 rfl) rfl rfl k) ?_
 have F22 := ((((P_F_a0_threshold.keep Kq3 nin0).other W13 (Or.inl (own_neArr ((P_E_a0.keep Kq3).wr W13) (hwd 67 rfl) V13))).other W17 (Or.inr (slot_ne (Or.inl (hwd 348 rfl)) (Or.inl (hwd 166 rfl)) (by decide) (t := .int) (t' := .int) (by decide) (by decide)))).other W21 (Or.inr (slot_ne (Or.inl (hwd 348 rfl)) (Or.inl (hwd 117 rfl)) (by decide) (t := .int) (t' := .int) (by decide) (by decide))))
 obtain ⟨T23, X23, e23, st23⟩ := getF X21 hx hZ hown (host := "") (Or.inl (hwd 347 rfl)) Via.refl e21 F22 (g := (mkF m 281 #[vR a0, vI p1, vR a2, vR a3, vI 0, vI 1, vR t_a0, .val .null, vI 16, vI ((15 : Int32) &&& p1), .unset, .unset, .unset] [(.ref a0), (.int (sz_a0 + (1 : Int32)))])) rfl rfl (y 52 rfl)
 refine qb st23 ?_
 refine qb (fun _ k => XS.icmpYes X23.here hx rfl (pc0 := 284) (pc' := 292) rfl (y 53 rfl) rfl (flt ha284).2.2.2 (by decide) (by decide) k) ?_
 show qG p e below _ (T23.setTop (mkF m 292 #[vR a0, vI p1, vR a2, vR a3, vI 0, vI 1, vR t_a0, .val .null, vI 16, vI ((15 : Int32) &&& p1), .unset, .unset, .unset] []))
 refine qb (fun _ k => XS.aloadN X23.here hx rfl (y 54 rfl) rfl rfl k) ?_
 refine qb (fun _ k => XS.iload X23.here hx rfl (y 55 rfl) rfl k) ?_
 have F25 := (F20.wr W21)
 obtain ⟨_, T24, Lc24, X24, hQ24, st24⟩ := own_cV X23 hx hZ hown hml (rmani l Z A0 hw [] a0 (1 : Int32) h21 n0 Z21 ) (hwd 372 rfl) (hwd 374 rfl) (hwd 68 rfl) (hwd 376 rfl) (by decide) pd_372 e23 (hwd 373 rfl) (hwd 375 rfl) F25 (g := (mkF m 295 #[vR a0, vI p1, vR a2, vR a3, vI 0, vI 1, vR t_a0, .val .null, vI 16, vI ((15 : Int32) &&& p1), .unset, .unset, .unset] [(.int 1), (.ref a0)])) (rest := []) rfl rfl rfl rfl (y 56 rfl) rfl
 obtain ⟨rfl, Nq24, eq24⟩ := hQ24
 have N24 := Fr.app N21 Nq24
 refine qb st24 ?_
 show qG p e below _ (T24.setTop (mkF m 298 #[vR a0, vI p1, vR a2, vR a3, vI 0, vI 1, vR t_a0, .val .null, vI 16, vI ((15 : Int32) &&& p1), .unset, .unset, .unset] []))
 refine qb (fun _ k => XS.aconstNull X24.here hx rfl (y 57 rfl) k) ?_
 have F26 := ((V13.other W17 (Ne.symm (own_neArr ((P_E_a0.keep Kq3).wr W13) (hwd 67 rfl) V13))).other W21 (Ne.symm (own_neArr ((P_E_a0.keep Kq3).wr W13) (hwd 67 rfl) V13)))
 have F27 := ((((P_F_a0_table.keep Kq3 nin0).other W13 (Or.inl (own_neArr ((((P_E_a0.keep Kq3).wr W13).wr W17).wr W21) (hwd 67 rfl) F26))).other W17 (Or.inr (slot_ne (Or.inl (hwd 170 rfl)) (Or.inl (hwd 166 rfl)) (by decide) (t := (.array (.object "java/util/HashMap$Node"))) (t' := .int) (by decide) (by decide)))).other W21 (Or.inr (slot_ne (Or.inl (hwd 170 rfl)) (Or.inl (hwd 117 rfl)) (by decide) (t := (.array (.object "java/util/HashMap$Node"))) (t' := .int) (by decide) (by decide))))
 have F28 := (Fw17.other W21 (Or.inr (slot_ne (Or.inl (hwd 166 rfl)) (Or.inl (hwd 117 rfl)) (by decide) (t := .int) (t' := .int) (by decide) (by decide))))
 have F29 := ((((P_F_a0_loadFactor.keep Kq3 nin0).other W13 (Or.inl (own_neArr ((((P_E_a0.keep Kq3).wr W13).wr W17).wr W21) (hwd 67 rfl) F26))).other W17 (Or.inr (slot_ne (Or.inr (hwd 81 rfl)) (Or.inl (hwd 166 rfl)) (by decide) (t := .float) (t' := .int) (by decide) (by decide)))).other W21 (Or.inr (slot_ne (Or.inr (hwd 81 rfl)) (Or.inl (hwd 117 rfl)) (by decide) (t := .float) (t' := .int) (by decide) (by decide))))
 have F30 := ((((P_F_a0_values.keep Kq3 nin0).other W13 (Or.inl (own_neArr ((((P_E_a0.keep Kq3).wr W13).wr W17).wr W21) (hwd 67 rfl) F26))).other W17 (Or.inr (slot_ne (Or.inl (hwd 128 rfl)) (Or.inl (hwd 166 rfl)) (by decide) (t := (.object "java/util/Collection")) (t' := .int) (by decide) (by decide)))).other W21 (Or.inr (slot_ne (Or.inl (hwd 128 rfl)) (Or.inl (hwd 117 rfl)) (by decide) (t := (.object "java/util/Collection")) (t' := .int) (by decide) (by decide))))
 have F31 := (((F7.wr W13).wr W17).wr W21)
 have nq32 := ne_exa F31 F25 (by decide)
 have F33 := (((F8.other W13 (Or.inl (qm P_V_t_a0.lt hp6))).other W17 (Or.inl nq32)).other W21 (Or.inl nq32))
 have F34 := (((F9.other W13 (Or.inl (qm P_V_t_a0.lt hp6))).other W17 (Or.inl nq32)).other W21 (Or.inl nq32))
 have F35 := (((F10.other W13 (Or.inl (qm P_V_t_a0.lt hp6))).other W17 (Or.inl nq32)).other W21 (Or.inl nq32))
 have F36 := (((F11.other W13 (Or.inl (qm P_V_t_a0.lt hp6))).other W17 (Or.inl nq32)).other W21 (Or.inl nq32))
 exact own_retR X24 hx hrt (by decide) rfl (y 58 rfl) hlk eq24 ⟨_, rfl, N24, K21, F26, F25, F27, Fw21, F28, F22, F29, F30, hp5, sz_b4, F31, F33, F34, F35, F36⟩ (by decide) (by decide)
theorem pd_316 : parseMethodDescriptor "(Ljava/lang/Object;)I" = some ⟨[(.object "java/lang/Object")], some .int⟩ := by decide +kernel
theorem pd_337 : parseMethodDescriptor "(ILjava/lang/Object;Ljava/lang/Object;ZZ)Ljava/lang/Object;" = some ⟨[.int, (.object "java/lang/Object"), (.object "java/lang/Object"), .boolean, .boolean], some (.object "java/lang/Object")⟩ := by decide +kernel
theorem d44 : own_ds jdk_69_method_15_code [(0, .aload_n 0, 1), (1, .aload_n 1, 1), (2, .invokestatic 149, 3), (5, .aload_n 1, 1), (6, .aload_n 2, 1), (7, .iconst 0, 1), (8, .iconst 1, 1), (9, .invokevirtual 152, 3), (12, .areturn, 1)] = true := by decide +kernel
theorem ef_putN (m : MethodId) (a0 a1 a2 : Addr) : entryFrame m #[(.ref a0), (.ref a1), (.ref a2)] 3 = mkF m 0 #[vR a0, vR a1, vR a2] [] := rfl
def QputN (Z : State) (lf_a0 : UInt32) (t_a1 : Addr) (k_t_a1 : ClassId) (fn_t_a1 : Nat → Int32) (hv_a1 f_CS : Int32) (a0 a1 a2 : Addr) (h0 : Heap) (n0 : Nat) (v : Option Value) (h : Heap) (L : List Loc) : Prop := ∃ (b16 : Addr) (b17 : ClassId) (b18 : Addr), v = some .null ∧ Fr n0 L ∧ Keep h0 h [a1, a0] ∧ Exa Z h a1 "java/lang/String" ∧ Fld Z h a1 cST "coder" "B" (.int 0) ∧ Fld Z h a1 cST "value" "[B" (.ref t_a1) ∧ Fld Z h a1 cST "hash" "I" (.int ((fn_t_a1 0) &&& (255 : Int32))) ∧ Fld Z h a1 cST "hashIsZero" "Z" (.int 0) ∧ Exa Z h a0 "java/util/HashMap" ∧ Fld Z h a0 cHM "table" "[Ljava/util/HashMap$Node;" (.ref b16) ∧ Fld Z h a0 cHM "size" "I" (.int 1) ∧ Fld Z h a0 cHM "modCount" "I" (.int 1) ∧ Fld Z h a0 cHM "threshold" "I" (.int 12) ∧ Fld Z h a0 cHM "loadFactor" "F" (.float lf_a0) ∧ Fld Z h a0 cAM "values" "Ljava/util/Collection;" .null ∧ (n0 ≤ b16) ∧ (h0.size ≤ b16) ∧ Exa Z h b16 "[Ljava/util/HashMap$Node;" ∧ qA Z h b16 b17 (.object "java/util/HashMap$Node") (16 : Int32) (fun i => (qu (fun _ => Value.null) (((15 : Int32) &&& (((fn_t_a1 0) &&& (255 : Int32)) ^^^ ((((fn_t_a1 0) &&& (255 : Int32)).toUInt32 >>> ((16 : Int32) &&& 31).toUInt32).toInt32)))).toNatClampNeg (.ref b18)) i) ∧ (Ovr Z b17 "java/util/HashMap$Node") ∧ (n0 ≤ b18) ∧ (h0.size ≤ b18) ∧ Exa Z h b18 "java/util/HashMap$Node" ∧ Fld Z h b18 cND "hash" "I" (.int (((fn_t_a1 0) &&& (255 : Int32)) ^^^ ((((fn_t_a1 0) &&& (255 : Int32)).toUInt32 >>> ((16 : Int32) &&& 31).toUInt32).toInt32))) ∧ Fld Z h b18 cND "key" "Ljava/lang/Object;" (.ref a1) ∧ Fld Z h b18 cND "value" "Ljava/lang/Object;" (.ref a2) ∧ Fld Z h b18 cND "next" "Ljava/util/HashMap$Node;" .null ∧ (b16 ≠ b18)
theorem rmputN (l : Launch) (Z : State) (A0 : Array Value) (hw : ∀ d ∈ tables_1, d.before A0 Z = true) (ws : List Jvm.Cond) (lf_a0 : UInt32) (t_a1 : Addr) (k_t_a1 : ClassId) (fn_t_a1 : Nat → Int32) (hv_a1 f_CS : Int32) (a0 a1 a2 : Addr) (h0 : Heap) (n0 : Nat) (Z0 : n0 ≤ h0.size) (P_E_a0 : Exa Z h0 a0 "java/util/HashMap") (P_F_a0_table : Fld Z h0 a0 cHM "table" "[Ljava/util/HashMap$Node;" .null) (P_F_a0_size : Fld Z h0 a0 cHM "size" "I" (.int 0)) (P_F_a0_modCount : Fld Z h0 a0 cHM "modCount" "I" (.int 0)) (P_F_a0_threshold : Fld Z h0 a0 cHM "threshold" "I" (.int 0)) (P_F_a0_loadFactor : Fld Z h0 a0 cHM "loadFactor" "F" (.float lf_a0)) (P_F_a0_values : Fld Z h0 a0 cAM "values" "Ljava/util/Collection;" .null) (P_E_a1 : Exa Z h0 a1 "java/lang/String") (P_F_a1_coder : Fld Z h0 a1 cST "coder" "B" (.int 0)) (P_F_a1_value : Fld Z h0 a1 cST "value" "[B" (.ref t_a1)) (P_F_a1_hash : Fld Z h0 a1 cST "hash" "I" (.int hv_a1)) (P_F_a1_hashIsZero : Fld Z h0 a1 cST "hashIsZero" "Z" (.int 0)) (P_V_t_a1 : qA Z h0 t_a1 k_t_a1 .byte (1 : Int32) (fun i => .int (fn_t_a1 i))) (hh_a1 : hv_a1 = (0 : Int32) ∨ hv_a1 = ((fn_t_a1 0) &&& (255 : Int32))) (hc_a1 : ¬ (((fn_t_a1 0) &&& (255 : Int32)) = (0 : Int32))) (P_S_CS : Sta Z h0 cST "COMPACT_STRINGS" "Z" (.int f_CS)) (hn_CS : ¬ (f_CS = (0 : Int32))) (g_a1 : n0 ≤ a1) (g_a0 : n0 ≤ a0) (hp_5 : (¬ ((15 : Int32) &&& (((fn_t_a1 0) &&& (255 : Int32)) ^^^ ((((fn_t_a1 0) &&& (255 : Int32)).toUInt32 >>> ((16 : Int32) &&& 31).toUInt32).toInt32))) < 0) ∧ ((15 : Int32) &&& (((fn_t_a1 0) &&& (255 : Int32)) ^^^ ((((fn_t_a1 0) &&& (255 : Int32)).toUInt32 >>> ((16 : Int32) &&& 31).toUInt32).toInt32))) < (16 : Int32)) :
  qM l Z (⟨"java/util/HashMap", "put", "(Ljava/lang/Object;Ljava/lang/Object;)Ljava/lang/Object;"⟩ : MethodName) jdk_69_method_15_code 3 (some (.object "java/lang/Object")) ws ({ frames := 4, cells := 2, slots := 20, locals := 71 } : Room) #[(.ref a0), (.ref a1), (.ref a2)] h0 (QputN Z lf_a0 t_a1 k_t_a1 fn_t_a1 hv_a1 f_CS a0 a1 a2 h0 n0) 2 20 := qe d44 (plainFor_of_name pn_iHm) (fun m => ef_putN m a0 a1 a2) fun p e s m below meth c s₁ hx y hml hlk hown hnm X0 e0 hZ hrt => by
 have hwd := qw hw
 have N0 := Fr.nil n0
 show qG p e below _ (s₁.setTop (mkF m 0 #[vR a0, vR a1, vR a2] []))
 refine qb (fun _ k => XS.aloadN X0.here hx rfl (y 0 rfl) rfl rfl k) ?_
 refine qb (fun _ k => XS.aloadN X0.here hx rfl (y 1 rfl) rfl rfl k) ?_
 obtain ⟨_, T1, Lc1, X1, hQ1, st1⟩ := own_cS X0 hx hZ hown hml (rmhsh l Z A0 hw [] t_a1 k_t_a1 fn_t_a1 hv_a1 f_CS a1 h0 n0 Z0 P_E_a1 P_F_a1_coder P_F_a1_value P_F_a1_hash P_F_a1_hashIsZero P_V_t_a1 hh_a1 hc_a1 P_S_CS hn_CS g_a1) (hwd 316 rfl) (hwd 317 rfl) (hwd 68 rfl) (hwd 318 rfl) (by decide) pd_316 e0 (g := (mkF m 2 #[vR a0, vR a1, vR a2] [(.ref a1), (.ref a0)])) (rest := [(.ref a0)]) rfl rfl rfl rfl (y 2 rfl) rfl
 obtain ⟨rfl, Nq1, Kq1, F2, F3, F4, F5, F6⟩ := hQ1
 have N1 := Fr.app N0 Nq1
 have K1 : Keep h0 T1.heap [a1, a0] := (Keep.refl h0 [a1, a0]).trans Kq1 ((allS (Or.inl (List.mem_of_getElem? (i := 0) rfl)) all0))
 have Z1 := ql Z0 Kq1.1
 refine qb st1 ?_
 show qG p e below _ (T1.setTop (mkF m 5 #[vR a0, vR a1, vR a2] [(.int (((fn_t_a1 0) &&& (255 : Int32)) ^^^ ((((fn_t_a1 0) &&& (255 : Int32)).toUInt32 >>> ((16 : Int32) &&& 31).toUInt32).toInt32))), (.ref a0)]))
 refine qb (fun _ k => XS.aloadN X1.here hx rfl (y 3 rfl) rfl rfl k) ?_
 refine qb (fun _ k => XS.aloadN X1.here hx rfl (y 4 rfl) rfl rfl k) ?_
 refine qb (fun _ k => XS.iconst X1.here hx rfl (y 5 rfl) k) ?_
 refine qb (fun _ k => XS.iconst X1.here hx rfl (y 6 rfl) k) ?_
 have F7 := (P_E_a0.keep Kq1)
 have nq8 := ne_exa F7 F2 (by decide)
 have F9 := (P_F_a0_table.keep Kq1 (ninS nq8 nin0))
 have F10 := (P_F_a0_size.keep Kq1 (ninS nq8 nin0))
 have F11 := (P_F_a0_modCount.keep Kq1 (ninS nq8 nin0))
 have F12 := (P_F_a0_threshold.keep Kq1 (ninS nq8 nin0))
 have F13 := (P_F_a0_loadFactor.keep Kq1 (ninS nq8 nin0))
 have F14 := (P_F_a0_values.keep Kq1 (ninS nq8 nin0))
 obtain ⟨_, T15, Lc15, X15, hQ15, st15⟩ := own_cV X1 hx hZ hown hml (rmpvN l Z A0 hw [] lf_a0 a0 (((fn_t_a1 0) &&& (255 : Int32)) ^^^ ((((fn_t_a1 0) &&& (255 : Int32)).toUInt32 >>> ((16 : Int32) &&& 31).toUInt32).toInt32)) a1 a2 T1.heap n0 Z1 F7 F9 F10 F11 F12 F13 F14 g_a0 hp_5) (hwd 337 rfl) (hwd 339 rfl) (hwd 68 rfl) (hwd 341 rfl) (by decide) pd_337 rfl (hwd 338 rfl) (hwd 340 rfl) F7 (g := (mkF m 9 #[vR a0, vR a1, vR a2] [(.int 1), (.int 0), (.ref a2), (.ref a1), (.int (((fn_t_a1 0) &&& (255 : Int32)) ^^^ ((((fn_t_a1 0) &&& (255 : Int32)).toUInt32 >>> ((16 : Int32) &&& 31).toUInt32).toInt32))), (.ref a0)])) (rest := []) rfl rfl rfl rfl (y 7 rfl) rfl
 obtain ⟨b16, b17, b18, rfl, Nq15, Kq15, F19, F20, F21, F22, F23, F24, F25, hp26, hp27, F28, F29, hp30, hp31, hp32, F33, F34, F35, F36, F37, hp38⟩ := hQ15
 have N15 := Fr.app N1 Nq15
 have K15 : Keep h0 T15.heap [a1, a0] := K1.trans Kq15 ((allS (Or.inl (List.mem_of_getElem? (i := 1) rfl)) all0))
 have Z15 := ql Z1 Kq15.1
 have sz_b16 := ql K1.1 hp27
 have sz_b18 := ql K1.1 hp32
 refine qb st15 ?_
 show qG p e below _ (T15.setTop (mkF m 12 #[vR a0, vR a1, vR a2] [.null]))
 have F39 := (F2.keep Kq15)
 have F40 := (F3.keep Kq15 (ninS (Ne.symm nq8) nin0))
 have F41 := (F4.keep Kq15 (ninS (Ne.symm nq8) nin0))
 have F42 := (F5.keep Kq15 (ninS (Ne.symm nq8) nin0))
 have F43 := (F6.keep Kq15 (ninS (Ne.symm nq8) nin0))
 exact own_retR X15 hx hrt (by decide) rfl (y 8 rfl) hlk rfl ⟨_, _, _, rfl, N15, K15, F39, F40, F41, F42, F43, F19, F20, F21, F22, F23, F24, F25, hp26, sz_b16, F28, F29, hp30, hp31, sz_b18, F33, F34, F35, F36, F37, hp38⟩ (by decide) (by decide)
theorem ef_putT (m : MethodId) (a0 a1 a2 : Addr) : entryFrame m #[(.ref a0), (.ref a1), (.ref a2)] 3 = mkF m 0 #[vR a0, vR a1, vR a2] [] := rfl
def QputT (Z : State) (lf_a0 : UInt32) (t_a0 : Addr) (sz_a0 : Int32) (k_t_a0 : ClassId) (fn_t_a0 : Nat → Value) (t_a1 : Addr) (k_t_a1 : ClassId) (fn_t_a1 : Nat → Int32) (hv_a1 f_CS : Int32) (a0 a1 a2 : Addr) (h0 : Heap) (n0 : Nat) (v : Option Value) (h : Heap) (L : List Loc) : Prop := ∃ (b17 : Addr), v = some .null ∧ Fr n0 L ∧ Keep h0 h [a1, a0, t_a0] ∧ Exa Z h a1 "java/lang/String" ∧ Fld Z h a1 cST "coder" "B" (.int 0) ∧ Fld Z h a1 cST "value" "[B" (.ref t_a1) ∧ Fld Z h a1 cST "hash" "I" (.int ((fn_t_a1 0) &&& (255 : Int32))) ∧ Fld Z h a1 cST "hashIsZero" "Z" (.int 0) ∧ Exa Z h a0 "java/util/HashMap" ∧ Fld Z h a0 cHM "table" "[Ljava/util/HashMap$Node;" (.ref t_a0) ∧ Fld Z h a0 cHM "size" "I" (.int (sz_a0 + (1 : Int32))) ∧ Fld Z h a0 cHM "modCount" "I" (.int (sz_a0 + (1 : Int32))) ∧ Fld Z h a0 cHM "threshold" "I" (.int 12) ∧ Fld Z h a0 cHM "loadFactor" "F" (.float lf_a0) ∧ Fld Z h a0 cAM "values" "Ljava/util/Collection;" .null ∧ qA Z h t_a0 k_t_a0 (.object "java/util/HashMap$Node") (16 : Int32) (fun i => (qu fn_t_a0 (((15 : Int32) &&& (((fn_t_a1 0) &&& (255 : Int32)) ^^^ ((((fn_t_a1 0) &&& (255 : Int32)).toUInt32 >>> ((16 : Int32) &&& 31).toUInt32).toInt32)))).toNatClampNeg (.ref b17)) i) ∧ (n0 ≤ b17) ∧ (h0.size ≤ b17) ∧ Exa Z h b17 "java/util/HashMap$Node" ∧ Fld Z h b17 cND "hash" "I" (.int (((fn_t_a1 0) &&& (255 : Int32)) ^^^ ((((fn_t_a1 0) &&& (255 : Int32)).toUInt32 >>> ((16 : Int32) &&& 31).toUInt32).toInt32))) ∧ Fld Z h b17 cND "key" "Ljava/lang/Object;" (.ref a1) ∧ Fld Z h b17 cND "value" "Ljava/lang/Object;" (.ref a2) ∧ Fld Z h b17 cND "next" "Ljava/util/HashMap$Node;" .null
theorem rmputT (l : Launch) (Z : State) (A0 : Array Value) (hw : ∀ d ∈ tables_1, d.before A0 Z = true) (ws : List Jvm.Cond) (lf_a0 : UInt32) (t_a0 : Addr) (sz_a0 : Int32) (k_t_a0 : ClassId) (fn_t_a0 : Nat → Value) (t_a1 : Addr) (k_t_a1 : ClassId) (fn_t_a1 : Nat → Int32) (hv_a1 f_CS : Int32) (a0 a1 a2 : Addr) (h0 : Heap) (n0 : Nat) (Z0 : n0 ≤ h0.size) (P_E_a0 : Exa Z h0 a0 "java/util/HashMap") (P_F_a0_table : Fld Z h0 a0 cHM "table" "[Ljava/util/HashMap$Node;" (.ref t_a0)) (P_F_a0_size : Fld Z h0 a0 cHM "size" "I" (.int sz_a0)) (P_F_a0_modCount : Fld Z h0 a0 cHM "modCount" "I" (.int sz_a0)) (P_F_a0_threshold : Fld Z h0 a0 cHM "threshold" "I" (.int 12)) (P_F_a0_loadFactor : Fld Z h0 a0 cHM "loadFactor" "F" (.float lf_a0)) (P_F_a0_values : Fld Z h0 a0 cAM "values" "Ljava/util/Collection;" .null) (P_V_t_a0 : qA Z h0 t_a0 k_t_a0 (.object "java/util/HashMap$Node") (16 : Int32) (fun i => fn_t_a0 i)) (hO_k_t_a0 : Ovr Z k_t_a0 "java/util/HashMap$Node") (P_E_a1 : Exa Z h0 a1 "java/lang/String") (P_F_a1_coder : Fld Z h0 a1 cST "coder" "B" (.int 0)) (P_F_a1_value : Fld Z h0 a1 cST "value" "[B" (.ref t_a1)) (P_F_a1_hash : Fld Z h0 a1 cST "hash" "I" (.int hv_a1)) (P_F_a1_hashIsZero : Fld Z h0 a1 cST "hashIsZero" "Z" (.int 0)) (P_V_t_a1 : qA Z h0 t_a1 k_t_a1 .byte (1 : Int32) (fun i => .int (fn_t_a1 i))) (hh_a1 : hv_a1 = (0 : Int32) ∨ hv_a1 = ((fn_t_a1 0) &&& (255 : Int32))) (hc_a1 : ¬ (((fn_t_a1 0) &&& (255 : Int32)) = (0 : Int32))) (P_S_CS : Sta Z h0 cST "COMPACT_STRINGS" "Z" (.int f_CS)) (hn_CS : ¬ (f_CS = (0 : Int32))) (hnul : (fn_t_a0 (((15 : Int32) &&& (((fn_t_a1 0) &&& (255 : Int32)) ^^^ ((((fn_t_a1 0) &&& (255 : Int32)).toUInt32 >>> ((16 : Int32) &&& 31).toUInt32).toInt32)))).toNatClampNeg) = .null) (g_a1 : n0 ≤ a1) (hp_6 : (¬ ((15 : Int32) &&& (((fn_t_a1 0) &&& (255 : Int32)) ^^^ ((((fn_t_a1 0) &&& (255 : Int32)).toUInt32 >>> ((16 : Int32) &&& 31).toUInt32).toInt32))) < 0) ∧ ((15 : Int32) &&& (((fn_t_a1 0) &&& (255 : Int32)) ^^^ ((((fn_t_a1 0) &&& (255 : Int32)).toUInt32 >>> ((16 : Int32) &&& 31).toUInt32).toInt32))) < (16 : Int32)) (g_t_a0 : n0 ≤ t_a0) (g_a0 : n0 ≤ a0) (hp_9 : ¬ ((12 : Int32) < (sz_a0 + (1 : Int32)))) :
  qM l Z (⟨"java/util/HashMap", "put", "(Ljava/lang/Object;Ljava/lang/Object;)Ljava/lang/Object;"⟩ : MethodName) jdk_69_method_15_code 3 (some (.object "java/lang/Object")) ws ({ frames := 4, cells := 1, slots := 4, locals := 71 } : Room) #[(.ref a0), (.ref a1), (.ref a2)] h0 (QputT Z lf_a0 t_a0 sz_a0 k_t_a0 fn_t_a0 t_a1 k_t_a1 fn_t_a1 hv_a1 f_CS a0 a1 a2 h0 n0) 1 4 := qe d44 (plainFor_of_name pn_iHm) (fun m => ef_putT m a0 a1 a2) fun p e s m below meth c s₁ hx y hml hlk hown hnm X0 e0 hZ hrt => by
 have hwd := qw hw
 have N0 := Fr.nil n0
 show qG p e below _ (s₁.setTop (mkF m 0 #[vR a0, vR a1, vR a2] []))
 refine qb (fun _ k => XS.aloadN X0.here hx rfl (y 0 rfl) rfl rfl k) ?_
 refine qb (fun _ k => XS.aloadN X0.here hx rfl (y 1 rfl) rfl rfl k) ?_
 obtain ⟨_, T1, Lc1, X1, hQ1, st1⟩ := own_cS X0 hx hZ hown hml (rmhsh l Z A0 hw [] t_a1 k_t_a1 fn_t_a1 hv_a1 f_CS a1 h0 n0 Z0 P_E_a1 P_F_a1_coder P_F_a1_value P_F_a1_hash P_F_a1_hashIsZero P_V_t_a1 hh_a1 hc_a1 P_S_CS hn_CS g_a1) (hwd 316 rfl) (hwd 317 rfl) (hwd 68 rfl) (hwd 318 rfl) (by decide) pd_316 e0 (g := (mkF m 2 #[vR a0, vR a1, vR a2] [(.ref a1), (.ref a0)])) (rest := [(.ref a0)]) rfl rfl rfl rfl (y 2 rfl) rfl
 obtain ⟨rfl, Nq1, Kq1, F2, F3, F4, F5, F6⟩ := hQ1
 have N1 := Fr.app N0 Nq1
 have K1 : Keep h0 T1.heap [a1, a0, t_a0] := (Keep.refl h0 [a1, a0, t_a0]).trans Kq1 ((allS (Or.inl (List.mem_of_getElem? (i := 0) rfl)) all0))
 have Z1 := ql Z0 Kq1.1
 refine qb st1 ?_
 show qG p e below _ (T1.setTop (mkF m 5 #[vR a0, vR a1, vR a2] [(.int (((fn_t_a1 0) &&& (255 : Int32)) ^^^ ((((fn_t_a1 0) &&& (255 : Int32)).toUInt32 >>> ((16 : Int32) &&& 31).toUInt32).toInt32))), (.ref a0)]))
 refine qb (fun _ k => XS.aloadN X1.here hx rfl (y 3 rfl) rfl rfl k) ?_
 refine qb (fun _ k => XS.aloadN X1.here hx rfl (y 4 rfl) rfl rfl k) ?_
 refine qb (fun _ k => XS.iconst X1.here hx rfl (y 5 rfl) k) ?_
 refine qb (fun _ k => XS.iconst X1.here hx rfl (y 6 rfl) k) ?_
 have F7 := (P_E_a0.keep Kq1)
 have nq8 := ne_exa F7 F2 (by decide)
 have F9 := (P_F_a0_table.keep Kq1 (ninS nq8 nin0))
 have F10 := (P_F_a0_size.keep Kq1 (ninS nq8 nin0))
 have F11 := (P_F_a0_modCount.keep Kq1 (ninS nq8 nin0))
 have F12 := (P_F_a0_threshold.keep Kq1 (ninS nq8 nin0))
 have F13 := (P_F_a0_loadFactor.keep Kq1 (ninS nq8 nin0))
 have F14 := (P_F_a0_values.keep Kq1 (ninS nq8 nin0))
 have F15 := (P_V_t_a0.keep Kq1 (ninS (Ne.symm (own_neArr P_E_a1 (hwd 10 rfl) P_V_t_a0)) nin0))
 obtain ⟨_, T16, Lc16, X16, hQ16, st16⟩ := own_cV X1 hx hZ hown hml (rmpvT l Z A0 hw [] lf_a0 t_a0 sz_a0 k_t_a0 fn_t_a0 a0 (((fn_t_a1 0) &&& (255 : Int32)) ^^^ ((((fn_t_a1 0) &&& (255 : Int32)).toUInt32 >>> ((16 : Int32) &&& 31).toUInt32).toInt32)) a1 a2 T1.heap n0 Z1 F7 F9 F10 F11 F12 F13 F14 F15 hO_k_t_a0 hnul hp_6 g_t_a0 g_a0 hp_9) (hwd 337 rfl) (hwd 339 rfl) (hwd 68 rfl) (hwd 341 rfl) (by decide) pd_337 rfl (hwd 338 rfl) (hwd 340 rfl) F7 (g := (mkF m 9 #[vR a0, vR a1, vR a2] [(.int 1), (.int 0), (.ref a2), (.ref a1), (.int (((fn_t_a1 0) &&& (255 : Int32)) ^^^ ((((fn_t_a1 0) &&& (255 : Int32)).toUInt32 >>> ((16 : Int32) &&& 31).toUInt32).toInt32))), (.ref a0)])) (rest := []) rfl rfl rfl rfl (y 7 rfl) rfl
 obtain ⟨b17, rfl, Nq16, Kq16, F18, F19, F20, F21, F22, F23, F24, F25, hp26, hp27, F28, F29, F30, F31, F32⟩ := hQ16
 have N16 := Fr.app N1 Nq16
 have K16 : Keep h0 T16.heap [a1, a0, t_a0] := K1.trans Kq16 ((allS (Or.inl (List.mem_of_getElem? (i := 2) rfl)) (allS (Or.inl (List.mem_of_getElem? (i := 1) rfl)) all0)))
 have Z16 := ql Z1 Kq16.1
 have sz_b17 := ql K1.1 hp27
 refine qb st16 ?_
 show qG p e below _ (T16.setTop (mkF m 12 #[vR a0, vR a1, vR a2] [.null]))
 have F33 := (F2.keep Kq16)
 have F34 := (F3.keep Kq16 (ninS (own_neArr ((P_E_a1.keep Kq1).keep Kq16) (hwd 10 rfl) F18) (ninS (Ne.symm nq8) nin0)))
 have F35 := (F4.keep Kq16 (ninS (own_neArr ((P_E_a1.keep Kq1).keep Kq16) (hwd 10 rfl) F18) (ninS (Ne.symm nq8) nin0)))
 have F36 := (F5.keep Kq16 (ninS (own_neArr ((P_E_a1.keep Kq1).keep Kq16) (hwd 10 rfl) F18) (ninS (Ne.symm nq8) nin0)))
 have F37 := (F6.keep Kq16 (ninS (own_neArr ((P_E_a1.keep Kq1).keep Kq16) (hwd 10 rfl) F18) (ninS (Ne.symm nq8) nin0)))
 exact own_retR X16 hx hrt (by decide) rfl (y 8 rfl) hlk rfl ⟨_, rfl, N16, K16, F33, F34, F35, F36, F37, F19, F20, F21, F22, F23, F24, F25, F18, hp26, sz_b17, F28, F29, F30, F31, F32⟩ (by decide) (by decide)
theorem d36 : own_ds jdk_41_method_11_code [(0, .iload_n 0, 1), (1, .ifCond .lt 8, 3), (4, .iload_n 0, 1), (5, .iload_n 1, 1), (6, .if_icmp .lt 10, 3), (16, .iload_n 0, 1), (17, .ireturn, 1)] = true := by decide +kernel
theorem pn_pci : plainName "jdk/internal/util/Preconditions" = true := by first | (simp [plainName, overriddenIn]; done) | decide +kernel
theorem ef_pci (m : MethodId) (p0 p1 : Int32) : entryFrame m #[(.int p0), (.int p1), .null] 3 = mkF m 0 #[vI p0, vI p1, .val .null] [] := rfl
def Qpci (Z : State) (p0 p1 : Int32) (h0 : Heap) (n0 : Nat) (v : Option Value) (h : Heap) (L : List Loc) : Prop := v = some (.int p0) ∧ Fr n0 L ∧ h = h0
theorem rmpci (l : Launch) (Z : State) (A0 : Array Value) (hw : ∀ d ∈ tables_1, d.before A0 Z = true) (ws : List Jvm.Cond) (p0 p1 : Int32) (h0 : Heap) (n0 : Nat) (Z0 : n0 ≤ h0.size) (hc1 : ¬ (p0 < (0 : Int32))) (hc6 : p0 < p1) :
  qM l Z (⟨"jdk/internal/util/Preconditions", "checkIndex", "(IILjava/util/function/BiFunction;)I"⟩ : MethodName) jdk_41_method_11_code 3 (some .int) ws ({ frames := 0, cells := 0, slots := 0, locals := 0 } : Room) #[(.int p0), (.int p1), .null] h0 (Qpci Z p0 p1 h0 n0) 0 0 := qe d36 (plainFor_of_name pn_pci) (fun m => ef_pci m p0 p1) fun p e s m below meth c s₁ hx y hml hlk hown hnm X0 e0 hZ hrt => by
 have hwd := qw hw
 have N0 := Fr.nil n0
 show qG p e below _ (s₁.setTop (mkF m 0 #[vI p0, vI p1, .val .null] []))
 refine qb (fun _ k => XS.iloadN X0.here hx rfl (y 0 rfl) rfl k) ?_
 refine qb (fun _ k => XS.ifNo X0.here hx rfl (y 1 rfl) rfl ((if0 _ _).trans (flt hc1).1) k) ?_
 show qG p e below _ (s₁.setTop (mkF m 4 #[vI p0, vI p1, .val .null] []))
 refine qb (fun _ k => XS.iloadN X0.here hx rfl (y 2 rfl) rfl k) ?_
 refine qb (fun _ k => XS.iloadN X0.here hx rfl (y 3 rfl) rfl k) ?_
 refine qb (fun _ k => XS.icmpYes X0.here hx rfl (pc0 := 6) (pc' := 16) rfl (y 4 rfl) rfl (tlt hc6).1 (by decide) (by decide) k) ?_
 show qG p e below _ (s₁.setTop (mkF m 16 #[vI p0, vI p1, .val .null] []))
 refine qb (fun _ k => XS.iloadN X0.here hx rfl (y 5 rfl) rfl k) ?_
 exact own_retI X0 hx hrt (y 6 rfl) hlk e0 ⟨rfl, N0, rfl⟩ (by decide) (by decide)
theorem pd_260 : parseMethodDescriptor "(IILjava/util/function/BiFunction;)I" = some ⟨[.int, .int, (.object "java/util/function/BiFunction")], some .int⟩ := by decide +kernel
theorem d35 : own_ds jdk_31_method_17_code [(0, .iload_n 0, 1), (1, .iload_n 1, 1), (2, .aconst_null, 1), (3, .invokestatic 105, 3), (6, .ireturn, 1)] = true := by decide +kernel
theorem pn_ock : plainName "java/util/Objects" = true := by first | (simp [plainName, overriddenIn]; done) | decide +kernel
theorem ef_ock (m : MethodId) (p0 p1 : Int32) : entryFrame m #[(.int p0), (.int p1)] 2 = mkF m 0 #[vI p0, vI p1] [] := rfl
def Qock (Z : State) (p0 p1 : Int32) (h0 : Heap) (n0 : Nat) (v : Option Value) (h : Heap) (L : List Loc) : Prop := v = some (.int p0) ∧ Fr n0 L ∧ h = h0
theorem rmock (l : Launch) (Z : State) (A0 : Array Value) (hw : ∀ d ∈ tables_1, d.before A0 Z = true) (ws : List Jvm.Cond) (p0 p1 : Int32) (h0 : Heap) (n0 : Nat) (Z0 : n0 ≤ h0.size) (hp_0 : ¬ (p0 < (0 : Int32))) (hp_1 : p0 < p1) :
  qM l Z (⟨"java/util/Objects", "checkIndex", "(II)I"⟩ : MethodName) jdk_31_method_17_code 2 (some .int) ws ({ frames := 1, cells := 0, slots := 0, locals := 14 } : Room) #[(.int p0), (.int p1)] h0 (Qock Z p0 p1 h0 n0) 0 0 := qe d35 (plainFor_of_name pn_ock) (fun m => ef_ock m p0 p1) fun p e s m below meth c s₁ hx y hml hlk hown hnm X0 e0 hZ hrt => by
 have hwd := qw hw
 have N0 := Fr.nil n0
 show qG p e below _ (s₁.setTop (mkF m 0 #[vI p0, vI p1] []))
 refine qb (fun _ k => XS.iloadN X0.here hx rfl (y 0 rfl) rfl k) ?_
 refine qb (fun _ k => XS.iloadN X0.here hx rfl (y 1 rfl) rfl k) ?_
 refine qb (fun _ k => XS.aconstNull X0.here hx rfl (y 2 rfl) k) ?_
 obtain ⟨_, T1, Lc1, X1, hQ1, st1⟩ := own_cS X0 hx hZ hown hml (rmpci l Z A0 hw [] p0 p1 h0 n0 Z0 hp_0 hp_1) (hwd 260 rfl) (hwd 261 rfl) (hwd 262 rfl) (hwd 263 rfl) (by decide) pd_260 e0 (g := (mkF m 3 #[vI p0, vI p1] [.null, (.int p1), (.int p0)])) (rest := []) rfl rfl rfl rfl (y 3 rfl) rfl
 obtain ⟨rfl, Nq1, eq1⟩ := hQ1
 have N1 := Fr.app N0 Nq1
 refine qb st1 ?_
 show qG p e below _ (T1.setTop (mkF m 6 #[vI p0, vI p1] [(.int p0)]))
 exact own_retI X1 hx hrt (y 4 rfl) hlk eq1 ⟨rfl, N1, rfl⟩ (by decide) (by decide)
theorem d37 : own_ds jdk_38_method_18_code [(0, .aload_n 0, 1), (1, .getfield 9, 3), (4, .iload_n 1, 1), (5, .aaload, 1), (6, .areturn, 1)] = true := by decide +kernel
theorem ef_elD (m : MethodId) (a0 : Addr) (p1 : Int32) : entryFrame m #[(.ref a0), (.int p1)] 2 = mkF m 0 #[vR a0, vI p1] [] := rfl
def QelD (Z : State) (t_a0 : Addr) (k_t_a0 : ClassId) (fn_t_a0 : Nat → Value) (hit a0 : Addr) (p1 : Int32) (h0 : Heap) (n0 : Nat) (v : Option Value) (h : Heap) (L : List Loc) : Prop := v = some (.ref hit) ∧ Fr n0 L ∧ h = h0
theorem rmelD (l : Launch) (Z : State) (A0 : Array Value) (hw : ∀ d ∈ tables_1, d.before A0 Z = true) (ws : List Jvm.Cond) (t_a0 : Addr) (k_t_a0 : ClassId) (fn_t_a0 : Nat → Value) (hit a0 : Addr) (p1 : Int32) (h0 : Heap) (n0 : Nat) (Z0 : n0 ≤ h0.size) (P_E_a0 : Exa Z h0 a0 "java/util/ArrayList") (P_F_a0_elementData : Fld Z h0 a0 cAL "elementData" "[Ljava/lang/Object;" (.ref t_a0)) (P_V_t_a0 : qA Z h0 t_a0 k_t_a0 (.object "java/lang/Object") (10 : Int32) (fun i => fn_t_a0 i)) (hhit : (fn_t_a0 (p1).toNatClampNeg) = .ref hit) (hi_5_4 : (¬ p1 < 0) ∧ p1 < (10 : Int32)) :
  qM l Z (⟨"java/util/ArrayList", "elementData", "(I)Ljava/lang/Object;"⟩ : MethodName) jdk_38_method_18_code 2 (some (.object "java/lang/Object")) ws ({ frames := 0, cells := 0, slots := 0, locals := 0 } : Room) #[(.ref a0), (.int p1)] h0 (QelD Z t_a0 k_t_a0 fn_t_a0 hit a0 p1 h0 n0) 0 0 := qe d37 (plainFor_of_name pn_iArr) (fun m => ef_elD m a0 p1) fun p e s m below meth c s₁ hx y hml hlk hown hnm X0 e0 hZ hrt => by
 have hwd := qw hw
 have N0 := Fr.nil n0
 show qG p e below _ (s₁.setTop (mkF m 0 #[vR a0, vI p1] []))
 refine qb (fun _ k => XS.aloadN X0.here hx rfl (y 0 rfl) rfl rfl k) ?_
 obtain ⟨T1, X1, e1, st1⟩ := getF X0 hx hZ hown (host := "") (Or.inl (hwd 64 rfl)) Via.refl e0 P_F_a0_elementData (g := (mkF m 1 #[vR a0, vI p1] [(.ref a0)])) rfl rfl (y 1 rfl)
 refine qb st1 ?_
 refine qb (fun _ k => XS.iloadN X1.here hx rfl (y 2 rfl) rfl k) ?_
 refine qb (own_ldR X1 hx hZ e1 P_V_t_a0 (j := p1) hi_5_4 (g := (mkF m 5 #[vR a0, vI p1] [(.int p1), (.ref t_a0)])) rfl rfl (y 3 rfl)) ?_
 show qG p e below _ (T1.setTop (mkF m 6 #[vR a0, vI p1] [(fn_t_a0 (p1).toNatClampNeg)]))
 rw [hhit]
 show qG p e below _ (T1.setTop (mkF m 6 #[vR a0, vI p1] [(.ref hit)]))
 exact own_retR X1 hx hrt (by decide) rfl (y 4 rfl) hlk e1 ⟨rfl, N0, rfl⟩ (by decide) (by decide)
theorem pd_248 : parseMethodDescriptor "(I)Ljava/lang/Object;" = some ⟨[.int], some (.object "java/lang/Object")⟩ := by decide +kernel
theorem d34 : own_ds jdk_38_method_20_code [(0, .iload_n 1, 1), (1, .aload_n 0, 1), (2, .getfield 48, 3), (5, .invokestatic 118, 3), (8, .pop, 1), (9, .aload_n 0, 1), (10, .iload_n 1, 1), (11, .invokevirtual 123, 3), (14, .areturn, 1)] = true := by decide +kernel
theorem ef_getL (m : MethodId) (a0 : Addr) (p1 : Int32) : entryFrame m #[(.ref a0), (.int p1)] 2 = mkF m 0 #[vR a0, vI p1] [] := rfl
theorem ob_getL_7 (Nn p1 : Int32) (hn0 : ¬ (Nn < (0 : Int32))) (hn5 : Nn < (5 : Int32)) (hp0 : ¬ (p1 < (0 : Int32))) (hp1 : p1 < Nn) (hp_4 : (¬ p1 < 0) ∧ p1 < (10 : Int32)) : (p1).toNatClampNeg < (Nn).toNatClampNeg := by
  simp only [Int32.lt_iff_toInt_lt, Int32.le_iff_toInt_le, Int32.toNatClampNeg, own_l0, own_l1, own_l4, own_l5, own_l10, own_l16, own_l44] at *
  omega
theorem ob_getL_8 (Nn : Int32) (Ky : Nat → Addr) (p1 : Int32) (fl : Nat → Value) (hit kd : Addr) (hn0 : ¬ (Nn < (0 : Int32))) (hn5 : Nn < (5 : Int32)) (hp0 : ¬ (p1 < (0 : Int32))) (hp1 : p1 < Nn) (hp_4 : (¬ p1 < 0) ∧ p1 < (10 : Int32)) (hkd : kd = Ky (p1).toNatClampNeg) (hfl : (fl (p1).toNatClampNeg) = .ref hit) : kd = Ky (p1).toNatClampNeg := by
  assumption
def QgetL (Z : State) (Nn : Int32) (Ky : Nat → Addr) (a0 : Addr) (p1 : Int32) (h0 : Heap) (n0 : Nat) (v : Option Value) (h : Heap) (L : List Loc) : Prop := ∃ (rr r5001 : Addr), v = some (.ref rr) ∧ Fr n0 L ∧ h = h0 ∧ Exa Z h rr "com/example/libacross/libacross/format/Hit" ∧ Fld Z h rr cHT "documentId" "Ljava/lang/String;" (.ref r5001) ∧ (r5001 = Ky (p1).toNatClampNeg)
theorem rmgetL (l : Launch) (Z : State) (A0 : Array Value) (hw : ∀ d ∈ tables_1, d.before A0 Z = true) (ws : List Jvm.Cond) (Nn : Int32) (Ky : Nat → Addr) (a0 : Addr) (p1 : Int32) (h0 : Heap) (n0 : Nat) (Z0 : n0 ≤ h0.size) (P_L : own_Al Z h0 a0 Nn Ky) (P_E_a0 : Exa Z h0 a0 "java/util/ArrayList") (P_F_a0_size : Fld Z h0 a0 cAL "size" "I" (.int Nn)) (hn0 : ¬ (Nn < (0 : Int32))) (hn5 : Nn < (5 : Int32)) (hp0 : ¬ (p1 < (0 : Int32))) (hp1 : p1 < Nn) (hp_4 : (¬ p1 < 0) ∧ p1 < (10 : Int32)) :
  qM l Z (⟨"java/util/ArrayList", "get", "(I)Ljava/lang/Object;"⟩ : MethodName) jdk_38_method_20_code 2 (some (.object "java/lang/Object")) ws ({ frames := 2, cells := 0, slots := 0, locals := 27 } : Room) #[(.ref a0), (.int p1)] h0 (QgetL Z Nn Ky a0 p1 h0 n0) 0 0 := qe d34 (plainFor_of_name pn_iArr) (fun m => ef_getL m a0 p1) fun p e s m below meth c s₁ hx y hml hlk hown hnm X0 e0 hZ hrt => by
 have hwd := qw hw
 have N0 := Fr.nil n0
 show qG p e below _ (s₁.setTop (mkF m 0 #[vR a0, vI p1] []))
 obtain ⟨tl, kl, fl, hit, Fe, Va, hfl, Eh, Fd⟩ := own_Al.get P_L (i := (p1).toNatClampNeg) (ob_getL_7 Nn p1 hn0 hn5 hp0 hp1 hp_4)
 obtain ⟨kd, hkd⟩ : ∃ z, z = Ky (p1).toNatClampNeg := ⟨_, rfl⟩
 rw [← hkd] at Fd
 show qG p e below _ (s₁.setTop (mkF m 0 #[vR a0, vI p1] []))
 refine qb (fun _ k => XS.iloadN X0.here hx rfl (y 0 rfl) rfl k) ?_
 refine qb (fun _ k => XS.aloadN X0.here hx rfl (y 1 rfl) rfl rfl k) ?_
 obtain ⟨T1, X1, e1, st1⟩ := getF X0 hx hZ hown (host := "") (Or.inl (hwd 102 rfl)) Via.refl e0 P_F_a0_size (g := (mkF m 2 #[vR a0, vI p1] [(.ref a0), (.int p1)])) rfl rfl (y 2 rfl)
 refine qb st1 ?_
 obtain ⟨_, T2, Lc2, X2, hQ2, st2⟩ := own_cS X1 hx hZ hown hml (rmock l Z A0 hw [] p1 Nn h0 n0 Z0 hp0 hp1) (hwd 256 rfl) (hwd 257 rfl) (hwd 258 rfl) (hwd 259 rfl) (by decide) pd_241 e1 (g := (mkF m 5 #[vR a0, vI p1] [(.int Nn), (.int p1)])) (rest := []) rfl rfl rfl rfl (y 3 rfl) rfl
 obtain ⟨rfl, Nq2, eq2⟩ := hQ2
 have N2 := Fr.app N0 Nq2
 refine qb st2 ?_
 show qG p e below _ (T2.setTop (mkF m 8 #[vR a0, vI p1] [(.int p1)]))
 refine qb (fun _ k => XS.pop X2.here hx rfl (y 4 rfl) rfl rfl k) ?_
 refine qb (fun _ k => XS.aloadN X2.here hx rfl (y 5 rfl) rfl rfl k) ?_
 refine qb (fun _ k => XS.iloadN X2.here hx rfl (y 6 rfl) rfl k) ?_
 obtain ⟨_, T3, Lc3, X3, hQ3, st3⟩ := own_cV X2 hx hZ hown hml (rmelD l Z A0 hw [] tl kl fl hit a0 p1 h0 n0 Z0 P_E_a0 Fe Va hfl hp_4) (hwd 264 rfl) (hwd 266 rfl) (hwd 44 rfl) (hwd 268 rfl) (by decide) pd_248 eq2 (hwd 265 rfl) (hwd 267 rfl) P_E_a0 (g := (mkF m 11 #[vR a0, vI p1] [(.int p1), (.ref a0)])) (rest := []) rfl rfl rfl rfl (y 7 rfl) rfl
 obtain ⟨rfl, Nq3, eq3⟩ := hQ3
 have N3 := Fr.app N2 Nq3
 refine qb st3 ?_
 show qG p e below _ (T3.setTop (mkF m 14 #[vR a0, vI p1] [(.ref hit)]))
 exact own_retR X3 hx hrt (by decide) rfl (y 8 rfl) hlk eq3 ⟨hit, kd, rfl, N3, rfl, Eh, Fd, (ob_getL_8 Nn Ky p1 fl hit kd hn0 hn5 hp0 hp1 hp_4 hkd hfl)⟩ (by decide) (by decide)
theorem d15 : own_ds jdk_38_method_8_code [(0, .aload_n 0, 1), (1, .getfield 48, 3), (4, .ireturn, 1)] = true := by decide +kernel
theorem ef_alsz (m : MethodId) (a0 : Addr) : entryFrame m #[(.ref a0)] 1 = mkF m 0 #[vR a0] [] := rfl
def Qalsz (Z : State) (a0 : Addr) (f_a0_size : Int32) (h0 : Heap) (n0 : Nat) (v : Option Value) (h : Heap) (L : List Loc) : Prop := v = some (.int f_a0_size) ∧ Fr n0 L ∧ h = h0
theorem rmalsz (l : Launch) (Z : State) (A0 : Array Value) (hw : ∀ d ∈ tables_1, d.before A0 Z = true) (ws : List Jvm.Cond) (a0 : Addr) (f_a0_size : Int32) (h0 : Heap) (n0 : Nat) (Z0 : n0 ≤ h0.size) (P_E_a0 : Exa Z h0 a0 "java/util/ArrayList") (P_F_a0_size : Fld Z h0 a0 cAL "size" "I" (.int f_a0_size)) :
  qM l Z (⟨"java/util/ArrayList", "size", "()I"⟩ : MethodName) jdk_38_method_8_code 1 (some .int) ws ({ frames := 0, cells := 0, slots := 0, locals := 0 } : Room) #[(.ref a0)] h0 (Qalsz Z a0 f_a0_size h0 n0) 0 0 := qe d15 (plainFor_of_name pn_iArr) (fun m => ef_alsz m a0) fun p e s m below meth c s₁ hx y hml hlk hown hnm X0 e0 hZ hrt => by
 have hwd := qw hw
 have N0 := Fr.nil n0
 show qG p e below _ (s₁.setTop (mkF m 0 #[vR a0] []))
 refine qb (fun _ k => XS.aloadN X0.here hx rfl (y 0 rfl) rfl rfl k) ?_
 obtain ⟨T1, X1, e1, st1⟩ := getF X0 hx hZ hown (host := "") (Or.inl (hwd 102 rfl)) Via.refl e0 P_F_a0_size (g := (mkF m 1 #[vR a0] [(.ref a0)])) rfl rfl (y 1 rfl)
 refine qb st1 ?_
 exact own_retI X1 hx hrt (y 2 rfl) hlk e1 ⟨rfl, N0, rfl⟩ (by decide) (by decide)
theorem d38 : own_ds prog_20_method_7_code [(0, .aload_n 0, 1), (1, .getfield 7, 3), (4, .areturn, 1)] = true := by decide +kernel
theorem ef_did (m : MethodId) (a0 : Addr) : entryFrame m #[(.ref a0)] 1 = mkF m 0 #[vR a0] [] := rfl
def Qdid (Z : State) (a0 f_a0_documentId : Addr) (h0 : Heap) (n0 : Nat) (v : Option Value) (h : Heap) (L : List Loc) : Prop := v = some (.ref f_a0_documentId) ∧ Fr n0 L ∧ h = h0
theorem rmdid (l : Launch) (Z : State) (A0 : Array Value) (hw : ∀ d ∈ tables_1, d.before A0 Z = true) (ws : List Jvm.Cond) (a0 f_a0_documentId : Addr) (h0 : Heap) (n0 : Nat) (Z0 : n0 ≤ h0.size) (P_E_a0 : Exa Z h0 a0 "com/example/libacross/libacross/format/Hit") (P_F_a0_documentId : Fld Z h0 a0 cHT "documentId" "Ljava/lang/String;" (.ref f_a0_documentId)) :
  qM l Z (⟨"com/example/libacross/libacross/format/Hit", "documentId", "()Ljava/lang/String;"⟩ : MethodName) prog_20_method_7_code 1 (some (.object "java/lang/String")) ws ({ frames := 0, cells := 0, slots := 0, locals := 0 } : Room) #[(.ref a0)] h0 (Qdid Z a0 f_a0_documentId h0 n0) 0 0 := qe d38 (plainFor_of_name pn_iHit) (fun m => ef_did m a0) fun p e s m below meth c s₁ hx y hml hlk hown hnm X0 e0 hZ hrt => by
 have hwd := qw hw
 have N0 := Fr.nil n0
 show qG p e below _ (s₁.setTop (mkF m 0 #[vR a0] []))
 refine qb (fun _ k => XS.aloadN X0.here hx rfl (y 0 rfl) rfl rfl k) ?_
 obtain ⟨T1, X1, e1, st1⟩ := getF X0 hx hZ hown (host := "") (Or.inl (hwd 38 rfl)) Via.refl e0 P_F_a0_documentId (g := (mkF m 1 #[vR a0] [(.ref a0)])) rfl rfl (y 1 rfl)
 refine qb st1 ?_
 exact own_retR X1 hx hrt (by decide) rfl (y 2 rfl) hlk e1 ⟨rfl, N0, rfl⟩ (by decide) (by decide)
theorem d42 : own_ds jdk_33_method_27_code [(0, .aload_n 0, 1), (1, .getfield 205, 3), (4, .ireturn, 1)] = true := by decide +kernel
theorem ef_iv (m : MethodId) (a0 : Addr) : entryFrame m #[(.ref a0)] 1 = mkF m 0 #[vR a0] [] := rfl
def Qiv (Z : State) (a0 : Addr) (f_a0_value : Int32) (h0 : Heap) (n0 : Nat) (v : Option Value) (h : Heap) (L : List Loc) : Prop := v = some (.int f_a0_value) ∧ Fr n0 L ∧ h = h0
theorem rmiv (l : Launch) (Z : State) (A0 : Array Value) (hw : ∀ d ∈ tables_1, d.before A0 Z = true) (ws : List Jvm.Cond) (a0 : Addr) (f_a0_value : Int32) (h0 : Heap) (n0 : Nat) (Z0 : n0 ≤ h0.size) (P_E_a0 : Exa Z h0 a0 "java/lang/Integer") (P_F_a0_value : Fld Z h0 a0 cIN "value" "I" (.int f_a0_value)) :
  qM l Z (⟨"java/lang/Integer", "intValue", "()I"⟩ : MethodName) jdk_33_method_27_code 1 (some .int) ws ({ frames := 0, cells := 0, slots := 0, locals := 0 } : Room) #[(.ref a0)] h0 (Qiv Z a0 f_a0_value h0 n0) 0 0 := qe d42 (plainFor_of_name pn_iInt) (fun m => ef_iv m a0) fun p e s m below meth c s₁ hx y hml hlk hown hnm X0 e0 hZ hrt => by
 have hwd := qw hw
 have N0 := Fr.nil n0
 show qG p e below _ (s₁.setTop (mkF m 0 #[vR a0] []))
 refine qb (fun _ k => XS.aloadN X0.here hx rfl (y 0 rfl) rfl rfl k) ?_
 obtain ⟨T1, X1, e1, st1⟩ := getF X0 hx hZ hown (host := "") (Or.inl (hwd 304 rfl)) Via.refl e0 P_F_a0_value (g := (mkF m 1 #[vR a0] [(.ref a0)])) rfl rfl (y 1 rfl)
 refine qb st1 ?_
 exact own_retI X1 hx hrt (y 2 rfl) hlk e1 ⟨rfl, N0, rfl⟩ (by decide) (by decide)
theorem ef_ivo0 (m : MethodId)  : entryFrame m #[(.int 0)] 1 = mkF m 0 #[vI 0] [] := rfl
def Qivo0 (Z : State) (f_CA : Addr) (k_CA : ClassId) (fn_CA : Nat → Value) (h0 : Heap) (n0 : Nat) (v : Option Value) (h : Heap) (L : List Loc) : Prop := ∃ (rr : Addr), v = some (.ref rr) ∧ Fr n0 L ∧ h = h0 ∧ Exa Z h rr "java/lang/Integer" ∧ Fld Z h rr cIN "value" "I" (.int 0) ∧ ((True))
theorem rmivo0 (l : Launch) (Z : State) (A0 : Array Value) (hw : ∀ d ∈ tables_1, d.before A0 Z = true) (ws : List Jvm.Cond) (f_CA : Addr) (k_CA : ClassId) (fn_CA : Nat → Value) (h0 : Heap) (n0 : Nat) (Z0 : n0 ≤ h0.size) (P_S_HI : Sta Z h0 "java/lang/Integer$IntegerCache" "high" "I" (.int 127)) (P_S_CA : Sta Z h0 "java/lang/Integer$IntegerCache" "cache" "[Ljava/lang/Integer;" (.ref f_CA)) (P_Ca : own_Ca Z h0 f_CA k_CA fn_CA) :
  qM l Z (⟨"java/lang/Integer", "valueOf", "(I)Ljava/lang/Integer;"⟩ : MethodName) jdk_33_method_22_code 1 (some (.object "java/lang/Integer")) ws ({ frames := 0, cells := 0, slots := 0, locals := 0 } : Room) #[(.int 0)] h0 (Qivo0 Z f_CA k_CA fn_CA h0 n0) 0 0 := qe d39 (plainFor_of_name pn_iInt) (fun m => ef_ivo0 m ) fun p e s m below meth c s₁ hx y hml hlk hown hnm X0 e0 hZ hrt => by
 have hwd := qw hw
 have N0 := Fr.nil n0
 show qG p e below _ (s₁.setTop (mkF m 0 #[vI 0] []))
 have VCa := P_Ca.1
 refine qb (fun _ k => XS.iloadN X0.here hx rfl (y 0 rfl) rfl k) ?_
 refine qb (fun _ k => XS.bipush X0.here hx rfl (y 1 rfl) k) ?_
 refine qb (fun _ k => XS.icmpNo X0.here hx rfl (y 2 rfl) rfl (flt (by decide : ¬ ((0 : Int32) < (-128 : Int32)))).1 k) ?_
 show qG p e below _ (s₁.setTop (mkF m 6 #[vI 0] []))
 refine qb (fun _ k => XS.iloadN X0.here hx rfl (y 3 rfl) rfl k) ?_
 obtain ⟨T1, X1, e1, st1⟩ := getS2 X0 hx hZ hown (host := "") (Or.inl (hwd 280 rfl)) Via.refl e0 P_S_HI (g := (mkF m 7 #[vI 0] [(.int 0)])) rfl (y 4 rfl)
 refine qb st1 ?_
 refine qb (fun _ k => XS.icmpNo X1.here hx rfl (y 5 rfl) rfl (flt (by decide : ¬ ((127 : Int32) < (0 : Int32)))).2.2.1 k) ?_
 show qG p e below _ (T1.setTop (mkF m 13 #[vI 0] []))
 obtain ⟨T2, X2, e2, st2⟩ := getS2 X1 hx hZ hown (host := "") (Or.inl (hwd 282 rfl)) Via.refl e1 P_S_CA (g := (mkF m 13 #[vI 0] [])) rfl (y 6 rfl)
 refine qb st2 ?_
 refine qb (fun _ k => XS.iloadN X2.here hx rfl (y 7 rfl) rfl k) ?_
 refine qb (fun _ k => XS.sipush X2.here hx rfl (y 8 rfl) k) ?_
 refine qb (fun _ k => XS.iadd X2.here hx rfl (y 9 rfl) rfl k) ?_
 refine qb (own_ldR X2 hx hZ e2 VCa (j := (128 : Int32)) ⟨by decide, by decide⟩ (g := (mkF m 21 #[vI 0] [(.int 128), (.ref f_CA)])) rfl rfl (y 10 rfl)) ?_
 show qG p e below _ (T2.setTop (mkF m 22 #[vI 0] [(fn_CA 128)]))
 obtain ⟨b3, hb3', B3⟩ := P_Ca.2.2 (128 : Int32) (by decide) (by decide)
 have hb3 : fn_CA 128 = .ref b3 := hb3'
 rw [hb3]
 have Bv3 : Fld Z h0 b3 cIN "value" "I" (.int 0) := B3.2
 show qG p e below _ (T2.setTop (mkF m 22 #[vI 0] [(.ref b3)]))
 exact own_retR X2 hx hrt (by decide) rfl (y 11 rfl) hlk e2 ⟨b3, rfl, N0, rfl, B3.1, Bv3, trivial⟩ (by decide) (by decide)
theorem d41 : own_ds jdk_69_method_13_code [(0, .aload_n 0, 1), (1, .getfield 105, 3), (4, .dup, 1), (5, .astore_n 2, 1), (6, .ifnull 142, 3), (9, .aload_n 2, 1), (10, .arraylength, 1), (11, .dup, 1), (12, .istore 5, 2), (14, .ifCond .le 134, 3), (17, .aload_n 2, 1), (18, .iload 5, 2), (20, .iconst 1, 1), (21, .isub, 1), (22, .aload_n 1, 1), (23, .invokestatic 149, 3), (26, .dup, 1), (27, .istore 6, 2), (29, .iand, 1), (30, .aaload, 1), (31, .dup, 1), (32, .astore_n 3, 1), (33, .ifnull 115, 3), (36, .aload_n 3, 1), (37, .getfield 168, 3), (40, .iload 6, 2), (42, .if_icmp .ne 29, 3), (45, .aload_n 3, 1), (46, .getfield 170, 3), (49, .dup, 1), (50, .astore 7, 2), (52, .aload_n 1, 1), (53, .if_acmp .eq 16, 3), (69, .aload_n 3, 1), (70, .areturn, 1), (148, .aconst_null, 1), (149, .areturn, 1)] = true := by decide +kernel
theorem ef_gnN (m : MethodId) (a0 a1 : Addr) : entryFrame m #[(.ref a0), (.ref a1)] 8 = mkF m 0 #[vR a0, vR a1, .unset, .unset, .unset, .unset, .unset, .unset] [] := by first | (simp [entryFrame, mkF, argsToLocals, Value.category]; done) | rfl
def QgnN (Z : State) (a0 a1 : Addr) (h0 : Heap) (n0 : Nat) (v : Option Value) (h : Heap) (L : List Loc) : Prop := v = some .null ∧ Fr n0 L ∧ h = h0
theorem rmgnN (l : Launch) (Z : State) (A0 : Array Value) (hw : ∀ d ∈ tables_1, d.before A0 Z = true) (ws : List Jvm.Cond) (a0 a1 : Addr) (h0 : Heap) (n0 : Nat) (Z0 : n0 ≤ h0.size) (P_E_a0 : Exa Z h0 a0 "java/util/HashMap") (P_F_a0_table : Fld Z h0 a0 cHM "table" "[Ljava/util/HashMap$Node;" .null) :
  qM l Z (⟨"java/util/HashMap", "getNode", "(Ljava/lang/Object;)Ljava/util/HashMap$Node;"⟩ : MethodName) jdk_69_method_13_code 8 (some (.object "java/util/HashMap$Node")) ws ({ frames := 0, cells := 0, slots := 0, locals := 0 } : Room) #[(.ref a0), (.ref a1)] h0 (QgnN Z a0 a1 h0 n0) 0 0 := qe d41 (plainFor_of_name pn_iHm) (fun m => ef_gnN m a0 a1) fun p e s m below meth c s₁ hx y hml hlk hown hnm X0 e0 hZ hrt => by
 have hwd := qw hw
 have N0 := Fr.nil n0
 show qG p e below _ (s₁.setTop (mkF m 0 #[vR a0, vR a1, .unset, .unset, .unset, .unset, .unset, .unset] []))
 refine qb (fun _ k => XS.aloadN X0.here hx rfl (y 0 rfl) rfl rfl k) ?_
 obtain ⟨T1, X1, e1, st1⟩ := getF X0 hx hZ hown (host := "") (Or.inl (hwd 296 rfl)) Via.refl e0 P_F_a0_table (g := (mkF m 1 #[vR a0, vR a1, .unset, .unset, .unset, .unset, .unset, .unset] [(.ref a0)])) rfl rfl (y 1 rfl)
 refine qb st1 ?_
 refine qb (fun _ k => XS.dup X1.here hx rfl (y 2 rfl) rfl rfl k) ?_
 refine qb (fun _ k => XS.astoreN X1.here hx rfl (y 3 rfl) rfl rfl (l' := #[vR a0, vR a1, .val .null, .unset, .unset, .unset, .unset, .unset]) rfl k) ?_
 show qG p e below _ (T1.setTop (mkF m 6 #[vR a0, vR a1, .val .null, .unset, .unset, .unset, .unset, .unset] [.null]))
 refine qb (fun _ k => XS.ifnullYes X1.here hx rfl (pc0 := 6) (pc' := 148) rfl (y 4 rfl) rfl (by decide) (by decide) k) ?_
 show qG p e below _ (T1.setTop (mkF m 148 #[vR a0, vR a1, .val .null, .unset, .unset, .unset, .unset, .unset] []))
 refine qb (fun _ k => XS.aconstNull X1.here hx rfl (y 35 rfl) k) ?_
 exact own_retR X1 hx hrt (by decide) rfl (y 36 rfl) hlk e1 ⟨rfl, N0, rfl⟩ (by decide) (by decide)
theorem ef_gnE (m : MethodId) (a0 a1 : Addr) : entryFrame m #[(.ref a0), (.ref a1)] 8 = mkF m 0 #[vR a0, vR a1, .unset, .unset, .unset, .unset, .unset, .unset] [] := by first | (simp [entryFrame, mkF, argsToLocals, Value.category]; done) | rfl
def QgnE (Z : State) (t_a0 : Addr) (k_t_a0 : ClassId) (fn_t_a0 : Nat → Value) (t_a1 : Addr) (k_t_a1 : ClassId) (fn_t_a1 : Nat → Int32) (hv_a1 f_CS : Int32) (a0 a1 : Addr) (h0 : Heap) (n0 : Nat) (v : Option Value) (h : Heap) (L : List Loc) : Prop := v = some .null ∧ Fr n0 L ∧ Keep h0 h [a1] ∧ Exa Z h a1 "java/lang/String" ∧ Fld Z h a1 cST "coder" "B" (.int 0) ∧ Fld Z h a1 cST "value" "[B" (.ref t_a1) ∧ Fld Z h a1 cST "hash" "I" (.int ((fn_t_a1 0) &&& (255 : Int32))) ∧ Fld Z h a1 cST "hashIsZero" "Z" (.int 0)
theorem rmgnE (l : Launch) (Z : State) (A0 : Array Value) (hw : ∀ d ∈ tables_1, d.before A0 Z = true) (ws : List Jvm.Cond) (t_a0 : Addr) (k_t_a0 : ClassId) (fn_t_a0 : Nat → Value) (t_a1 : Addr) (k_t_a1 : ClassId) (fn_t_a1 : Nat → Int32) (hv_a1 f_CS : Int32) (a0 a1 : Addr) (h0 : Heap) (n0 : Nat) (Z0 : n0 ≤ h0.size) (P_E_a0 : Exa Z h0 a0 "java/util/HashMap") (P_F_a0_table : Fld Z h0 a0 cHM "table" "[Ljava/util/HashMap$Node;" (.ref t_a0)) (P_V_t_a0 : qA Z h0 t_a0 k_t_a0 (.object "java/util/HashMap$Node") (16 : Int32) (fun i => fn_t_a0 i)) (P_E_a1 : Exa Z h0 a1 "java/lang/String") (P_F_a1_coder : Fld Z h0 a1 cST "coder" "B" (.int 0)) (P_F_a1_value : Fld Z h0 a1 cST "value" "[B" (.ref t_a1)) (P_F_a1_hash : Fld Z h0 a1 cST "hash" "I" (.int hv_a1)) (P_F_a1_hashIsZero : Fld Z h0 a1 cST "hashIsZero" "Z" (.int 0)) (P_V_t_a1 : qA Z h0 t_a1 k_t_a1 .byte (1 : Int32) (fun i => .int (fn_t_a1 i))) (hh_a1 : hv_a1 = (0 : Int32) ∨ hv_a1 = ((fn_t_a1 0) &&& (255 : Int32))) (hc_a1 : ¬ (((fn_t_a1 0) &&& (255 : Int32)) = (0 : Int32))) (P_S_CS : Sta Z h0 cST "COMPACT_STRINGS" "Z" (.int f_CS)) (hn_CS : ¬ (f_CS = (0 : Int32))) (hixb : (¬ ((15 : Int32) &&& (((fn_t_a1 0) &&& (255 : Int32)) ^^^ ((((fn_t_a1 0) &&& (255 : Int32)).toUInt32 >>> ((16 : Int32) &&& 31).toUInt32).toInt32))) < 0) ∧ ((15 : Int32) &&& (((fn_t_a1 0) &&& (255 : Int32)) ^^^ ((((fn_t_a1 0) &&& (255 : Int32)).toUInt32 >>> ((16 : Int32) &&& 31).toUInt32).toInt32))) < (16 : Int32)) (hslot : (fn_t_a0 (((15 : Int32) &&& (((fn_t_a1 0) &&& (255 : Int32)) ^^^ ((((fn_t_a1 0) &&& (255 : Int32)).toUInt32 >>> ((16 : Int32) &&& 31).toUInt32).toInt32)))).toNatClampNeg) = .null) (g_a1 : n0 ≤ a1) :
  qM l Z (⟨"java/util/HashMap", "getNode", "(Ljava/lang/Object;)Ljava/util/HashMap$Node;"⟩ : MethodName) jdk_69_method_13_code 8 (some (.object "java/util/HashMap$Node")) ws ({ frames := 3, cells := 0, slots := 0, locals := 40 } : Room) #[(.ref a0), (.ref a1)] h0 (QgnE Z t_a0 k_t_a0 fn_t_a0 t_a1 k_t_a1 fn_t_a1 hv_a1 f_CS a0 a1 h0 n0) 0 0 := qe d41 (plainFor_of_name pn_iHm) (fun m => ef_gnE m a0 a1) fun p e s m below meth c s₁ hx y hml hlk hown hnm X0 e0 hZ hrt => by
 have hwd := qw hw
 have N0 := Fr.nil n0
 show qG p e below _ (s₁.setTop (mkF m 0 #[vR a0, vR a1, .unset, .unset, .unset, .unset, .unset, .unset] []))
 refine qb (fun _ k => XS.aloadN X0.here hx rfl (y 0 rfl) rfl rfl k) ?_
 obtain ⟨T1, X1, e1, st1⟩ := getF X0 hx hZ hown (host := "") (Or.inl (hwd 296 rfl)) Via.refl e0 P_F_a0_table (g := (mkF m 1 #[vR a0, vR a1, .unset, .unset, .unset, .unset, .unset, .unset] [(.ref a0)])) rfl rfl (y 1 rfl)
 refine qb st1 ?_
 refine qb (fun _ k => XS.dup X1.here hx rfl (y 2 rfl) rfl rfl k) ?_
 refine qb (fun _ k => XS.astoreN X1.here hx rfl (y 3 rfl) rfl rfl (l' := #[vR a0, vR a1, vR t_a0, .unset, .unset, .unset, .unset, .unset]) rfl k) ?_
 show qG p e below _ (T1.setTop (mkF m 6 #[vR a0, vR a1, vR t_a0, .unset, .unset, .unset, .unset, .unset] [(.ref t_a0)]))
 refine qb (fun _ k => XS.ifnullNo X1.here hx rfl (y 4 rfl) rfl k) ?_
 show qG p e below _ (T1.setTop (mkF m 9 #[vR a0, vR a1, vR t_a0, .unset, .unset, .unset, .unset, .unset] []))
 refine qb (fun _ k => XS.aloadN X1.here hx rfl (y 5 rfl) rfl rfl k) ?_
 obtain ⟨cl2, Ar2, qq2, S2, M2, H2, G2⟩ := id P_V_t_a0
 refine qb (fun t k => X1.arraylength hx (by rw [e1]; exact Ar2.1) (State.isArrayOf_alike hZ.alike Ar2.2.1) (g := (mkF m 10 #[vR a0, vR a1, vR t_a0, .unset, .unset, .unset, .unset, .unset] [(.ref t_a0)])) rfl rfl (y 6 rfl) _ k) ?_
 rw [len_of S2 M2]
 show qG p e below _ (T1.setTop (mkF m 11 #[vR a0, vR a1, vR t_a0, .unset, .unset, .unset, .unset, .unset] [(.int 16)]))
 refine qb (fun _ k => XS.dup X1.here hx rfl (y 7 rfl) rfl rfl k) ?_
 refine qb (fun _ k => XS.istore X1.here hx rfl (y 8 rfl) rfl (l' := #[vR a0, vR a1, vR t_a0, .unset, .unset, vI 16, .unset, .unset]) rfl k) ?_
 show qG p e below _ (T1.setTop (mkF m 14 #[vR a0, vR a1, vR t_a0, .unset, .unset, vI 16, .unset, .unset] [(.int 16)]))
 refine qb (fun _ k => XS.ifNo X1.here hx rfl (y 9 rfl) rfl ((if0 _ _).trans (tlt (by decide : (0 : Int32) < (16 : Int32))).2.2.2) k) ?_
 show qG p e below _ (T1.setTop (mkF m 17 #[vR a0, vR a1, vR t_a0, .unset, .unset, vI 16, .unset, .unset] []))
 refine qb (fun _ k => XS.aloadN X1.here hx rfl (y 10 rfl) rfl rfl k) ?_
 refine qb (fun _ k => XS.iload X1.here hx rfl (y 11 rfl) rfl k) ?_
 refine qb (fun _ k => XS.iconst X1.here hx rfl (y 12 rfl) k) ?_
 refine qb (fun _ k => XS.isub X1.here hx rfl (y 13 rfl) rfl k) ?_
 refine qb (fun _ k => XS.aloadN X1.here hx rfl (y 14 rfl) rfl rfl k) ?_
 obtain ⟨_, T3, Lc3, X3, hQ3, st3⟩ := own_cS X1 hx hZ hown hml (rmhsh l Z A0 hw [] t_a1 k_t_a1 fn_t_a1 hv_a1 f_CS a1 h0 n0 Z0 P_E_a1 P_F_a1_coder P_F_a1_value P_F_a1_hash P_F_a1_hashIsZero P_V_t_a1 hh_a1 hc_a1 P_S_CS hn_CS g_a1) (hwd 316 rfl) (hwd 317 rfl) (hwd 68 rfl) (hwd 318 rfl) (by decide) pd_316 e1 (g := (mkF m 23 #[vR a0, vR a1, vR t_a0, .unset, .unset, vI 16, .unset, .unset] [(.ref a1), (.int 15), (.ref t_a0)])) (rest := [(.int 15), (.ref t_a0)]) rfl rfl rfl rfl (y 15 rfl) rfl
 obtain ⟨rfl, Nq3, Kq3, F4, F5, F6, F7, F8⟩ := hQ3
 have N3 := Fr.app N0 Nq3
 have K3 : Keep h0 T3.heap [a1] := (Keep.refl h0 [a1]).trans Kq3 ((allS (Or.inl (List.mem_of_getElem? (i := 0) rfl)) all0))
 have Z3 := ql Z0 Kq3.1
 refine qb st3 ?_
 show qG p e below _ (T3.setTop (mkF m 26 #[vR a0, vR a1, vR t_a0, .unset, .unset, vI 16, .unset, .unset] [(.int (((fn_t_a1 0) &&& (255 : Int32)) ^^^ ((((fn_t_a1 0) &&& (255 : Int32)).toUInt32 >>> ((16 : Int32) &&& 31).toUInt32).toInt32))), (.int 15), (.ref t_a0)]))
 refine qb (fun _ k => XS.dup X3.here hx rfl (y 16 rfl) rfl rfl k) ?_
 refine qb (fun _ k => XS.istore X3.here hx rfl (y 17 rfl) rfl (l' := #[vR a0, vR a1, vR t_a0, .unset, .unset, vI 16, vI (((fn_t_a1 0) &&& (255 : Int32)) ^^^ ((((fn_t_a1 0) &&& (255 : Int32)).toUInt32 >>> ((16 : Int32) &&& 31).toUInt32).toInt32)), .unset]) rfl k) ?_
 show qG p e below _ (T3.setTop (mkF m 29 #[vR a0, vR a1, vR t_a0, .unset, .unset, vI 16, vI (((fn_t_a1 0) &&& (255 : Int32)) ^^^ ((((fn_t_a1 0) &&& (255 : Int32)).toUInt32 >>> ((16 : Int32) &&& 31).toUInt32).toInt32)), .unset] [(.int (((fn_t_a1 0) &&& (255 : Int32)) ^^^ ((((fn_t_a1 0) &&& (255 : Int32)).toUInt32 >>> ((16 : Int32) &&& 31).toUInt32).toInt32))), (.int 15), (.ref t_a0)]))
 refine qb (fun _ k => XS.iand X3.here hx rfl (y 18 rfl) rfl k) ?_
 have F9 := (P_V_t_a0.keep Kq3 (ninS (Ne.symm (own_neArr P_E_a1 (hwd 10 rfl) P_V_t_a0)) nin0))
 refine qb (own_ldR X3 hx hZ rfl F9 (j := ((15 : Int32) &&& (((fn_t_a1 0) &&& (255 : Int32)) ^^^ ((((fn_t_a1 0) &&& (255 : Int32)).toUInt32 >>> ((16 : Int32) &&& 31).toUInt32).toInt32)))) hixb (g := (mkF m 30 #[vR a0, vR a1, vR t_a0, .unset, .unset, vI 16, vI (((fn_t_a1 0) &&& (255 : Int32)) ^^^ ((((fn_t_a1 0) &&& (255 : Int32)).toUInt32 >>> ((16 : Int32) &&& 31).toUInt32).toInt32)), .unset] [(.int ((15 : Int32) &&& (((fn_t_a1 0) &&& (255 : Int32)) ^^^ ((((fn_t_a1 0) &&& (255 : Int32)).toUInt32 >>> ((16 : Int32) &&& 31).toUInt32).toInt32)))), (.ref t_a0)])) rfl rfl (y 19 rfl)) ?_
 show qG p e below _ (T3.setTop (mkF m 31 #[vR a0, vR a1, vR t_a0, .unset, .unset, vI 16, vI (((fn_t_a1 0) &&& (255 : Int32)) ^^^ ((((fn_t_a1 0) &&& (255 : Int32)).toUInt32 >>> ((16 : Int32) &&& 31).toUInt32).toInt32)), .unset] [(fn_t_a0 (((15 : Int32) &&& (((fn_t_a1 0) &&& (255 : Int32)) ^^^ ((((fn_t_a1 0) &&& (255 : Int32)).toUInt32 >>> ((16 : Int32) &&& 31).toUInt32).toInt32)))).toNatClampNeg)]))
 rw [hslot]
 show qG p e below _ (T3.setTop (mkF m 31 #[vR a0, vR a1, vR t_a0, .unset, .unset, vI 16, vI (((fn_t_a1 0) &&& (255 : Int32)) ^^^ ((((fn_t_a1 0) &&& (255 : Int32)).toUInt32 >>> ((16 : Int32) &&& 31).toUInt32).toInt32)), .unset] [.null]))
 refine qb (fun _ k => XS.dup X3.here hx rfl (y 20 rfl) rfl rfl k) ?_
 refine qb (fun _ k => XS.astoreN X3.here hx rfl (y 21 rfl) rfl rfl (l' := #[vR a0, vR a1, vR t_a0, .val .null, .unset, vI 16, vI (((fn_t_a1 0) &&& (255 : Int32)) ^^^ ((((fn_t_a1 0) &&& (255 : Int32)).toUInt32 >>> ((16 : Int32) &&& 31).toUInt32).toInt32)), .unset]) rfl k) ?_
 show qG p e below _ (T3.setTop (mkF m 33 #[vR a0, vR a1, vR t_a0, .val .null, .unset, vI 16, vI (((fn_t_a1 0) &&& (255 : Int32)) ^^^ ((((fn_t_a1 0) &&& (255 : Int32)).toUInt32 >>> ((16 : Int32) &&& 31).toUInt32).toInt32)), .unset] [.null]))
 refine qb (fun _ k => XS.ifnullYes X3.here hx rfl (pc0 := 33) (pc' := 148) rfl (y 22 rfl) rfl (by decide) (by decide) k) ?_
 show qG p e below _ (T3.setTop (mkF m 148 #[vR a0, vR a1, vR t_a0, .val .null, .unset, vI 16, vI (((fn_t_a1 0) &&& (255 : Int32)) ^^^ ((((fn_t_a1 0) &&& (255 : Int32)).toUInt32 >>> ((16 : Int32) &&& 31).toUInt32).toInt32)), .unset] []))
 refine qb (fun _ k => XS.aconstNull X3.here hx rfl (y 35 rfl) k) ?_
 exact own_retR X3 hx hrt (by decide) rfl (y 36 rfl) hlk rfl ⟨rfl, N3, K3, F4, F5, F6, F7, F8⟩ (by decide) (by decide)
theorem ef_gnH (m : MethodId) (a0 a1 : Addr) : entryFrame m #[(.ref a0), (.ref a1)] 8 = mkF m 0 #[vR a0, vR a1, .unset, .unset, .unset, .unset, .unset, .unset] [] := by first | (simp [entryFrame, mkF, argsToLocals, Value.category]; done) | rfl
def QgnH (Z : State) (t_a0 : Addr) (k_t_a0 : ClassId) (fn_t_a0 : Nat → Value) (t_a1 : Addr) (k_t_a1 : ClassId) (fn_t_a1 : Nat → Int32) (hv_a1 f_CS : Int32) (nd a0 a1 : Addr) (h0 : Heap) (n0 : Nat) (v : Option Value) (h : Heap) (L : List Loc) : Prop := v = some (.ref nd) ∧ Fr n0 L ∧ Keep h0 h [a1] ∧ Exa Z h a1 "java/lang/String" ∧ Fld Z h a1 cST "coder" "B" (.int 0) ∧ Fld Z h a1 cST "value" "[B" (.ref t_a1) ∧ Fld Z h a1 cST "hash" "I" (.int ((fn_t_a1 0) &&& (255 : Int32))) ∧ Fld Z h a1 cST "hashIsZero" "Z" (.int 0)
theorem rmgnH (l : Launch) (Z : State) (A0 : Array Value) (hw : ∀ d ∈ tables_1, d.before A0 Z = true) (ws : List Jvm.Cond) (t_a0 : Addr) (k_t_a0 : ClassId) (fn_t_a0 : Nat → Value) (t_a1 : Addr) (k_t_a1 : ClassId) (fn_t_a1 : Nat → Int32) (hv_a1 f_CS : Int32) (nd a0 a1 : Addr) (h0 : Heap) (n0 : Nat) (Z0 : n0 ≤ h0.size) (P_E_a0 : Exa Z h0 a0 "java/util/HashMap") (P_F_a0_table : Fld Z h0 a0 cHM "table" "[Ljava/util/HashMap$Node;" (.ref t_a0)) (P_V_t_a0 : qA Z h0 t_a0 k_t_a0 (.object "java/util/HashMap$Node") (16 : Int32) (fun i => fn_t_a0 i)) (P_E_a1 : Exa Z h0 a1 "java/lang/String") (P_F_a1_coder : Fld Z h0 a1 cST "coder" "B" (.int 0)) (P_F_a1_value : Fld Z h0 a1 cST "value" "[B" (.ref t_a1)) (P_F_a1_hash : Fld Z h0 a1 cST "hash" "I" (.int hv_a1)) (P_F_a1_hashIsZero : Fld Z h0 a1 cST "hashIsZero" "Z" (.int 0)) (P_V_t_a1 : qA Z h0 t_a1 k_t_a1 .byte (1 : Int32) (fun i => .int (fn_t_a1 i))) (hh_a1 : hv_a1 = (0 : Int32) ∨ hv_a1 = ((fn_t_a1 0) &&& (255 : Int32))) (hc_a1 : ¬ (((fn_t_a1 0) &&& (255 : Int32)) = (0 : Int32))) (P_S_CS : Sta Z h0 cST "COMPACT_STRINGS" "Z" (.int f_CS)) (hn_CS : ¬ (f_CS = (0 : Int32))) (hixb : (¬ ((15 : Int32) &&& (((fn_t_a1 0) &&& (255 : Int32)) ^^^ ((((fn_t_a1 0) &&& (255 : Int32)).toUInt32 >>> ((16 : Int32) &&& 31).toUInt32).toInt32))) < 0) ∧ ((15 : Int32) &&& (((fn_t_a1 0) &&& (255 : Int32)) ^^^ ((((fn_t_a1 0) &&& (255 : Int32)).toUInt32 >>> ((16 : Int32) &&& 31).toUInt32).toInt32))) < (16 : Int32)) (hslot : (fn_t_a0 (((15 : Int32) &&& (((fn_t_a1 0) &&& (255 : Int32)) ^^^ ((((fn_t_a1 0) &&& (255 : Int32)).toUInt32 >>> ((16 : Int32) &&& 31).toUInt32).toInt32)))).toNatClampNeg) = .ref nd) (P_E_nd : Exa Z h0 nd "java/util/HashMap$Node") (P_F_nd_hash : Fld Z h0 nd cND "hash" "I" (.int (((fn_t_a1 0) &&& (255 : Int32)) ^^^ ((((fn_t_a1 0) &&& (255 : Int32)).toUInt32 >>> ((16 : Int32) &&& 31).toUInt32).toInt32)))) (P_F_nd_key : Fld Z h0 nd cND "key" "Ljava/lang/Object;" (.ref a1)) (g_a1 : n0 ≤ a1) :
  qM l Z (⟨"java/util/HashMap", "getNode", "(Ljava/lang/Object;)Ljava/util/HashMap$Node;"⟩ : MethodName) jdk_69_method_13_code 8 (some (.object "java/util/HashMap$Node")) ws ({ frames := 3, cells := 0, slots := 0, locals := 40 } : Room) #[(.ref a0), (.ref a1)] h0 (QgnH Z t_a0 k_t_a0 fn_t_a0 t_a1 k_t_a1 fn_t_a1 hv_a1 f_CS nd a0 a1 h0 n0) 0 0 := qe d41 (plainFor_of_name pn_iHm) (fun m => ef_gnH m a0 a1) fun p e s m below meth c s₁ hx y hml hlk hown hnm X0 e0 hZ hrt => by
 have hwd := qw hw
 have N0 := Fr.nil n0
 show qG p e below _ (s₁.setTop (mkF m 0 #[vR a0, vR a1, .unset, .unset, .unset, .unset, .unset, .unset] []))
 refine qb (fun _ k => XS.aloadN X0.here hx rfl (y 0 rfl) rfl rfl k) ?_
 obtain ⟨T1, X1, e1, st1⟩ := getF X0 hx hZ hown (host := "") (Or.inl (hwd 296 rfl)) Via.refl e0 P_F_a0_table (g := (mkF m 1 #[vR a0, vR a1, .unset, .unset, .unset, .unset, .unset, .unset] [(.ref a0)])) rfl rfl (y 1 rfl)
 refine qb st1 ?_
 refine qb (fun _ k => XS.dup X1.here hx rfl (y 2 rfl) rfl rfl k) ?_
 refine qb (fun _ k => XS.astoreN X1.here hx rfl (y 3 rfl) rfl rfl (l' := #[vR a0, vR a1, vR t_a0, .unset, .unset, .unset, .unset, .unset]) rfl k) ?_
 show qG p e below _ (T1.setTop (mkF m 6 #[vR a0, vR a1, vR t_a0, .unset, .unset, .unset, .unset, .unset] [(.ref t_a0)]))
 refine qb (fun _ k => XS.ifnullNo X1.here hx rfl (y 4 rfl) rfl k) ?_
 show qG p e below _ (T1.setTop (mkF m 9 #[vR a0, vR a1, vR t_a0, .unset, .unset, .unset, .unset, .unset] []))
 refine qb (fun _ k => XS.aloadN X1.here hx rfl (y 5 rfl) rfl rfl k) ?_
 obtain ⟨cl2, Ar2, qq2, S2, M2, H2, G2⟩ := id P_V_t_a0
 refine qb (fun t k => X1.arraylength hx (by rw [e1]; exact Ar2.1) (State.isArrayOf_alike hZ.alike Ar2.2.1) (g := (mkF m 10 #[vR a0, vR a1, vR t_a0, .unset, .unset, .unset, .unset, .unset] [(.ref t_a0)])) rfl rfl (y 6 rfl) _ k) ?_
 rw [len_of S2 M2]
 show qG p e below _ (T1.setTop (mkF m 11 #[vR a0, vR a1, vR t_a0, .unset, .unset, .unset, .unset, .unset] [(.int 16)]))
 refine qb (fun _ k => XS.dup X1.here hx rfl (y 7 rfl) rfl rfl k) ?_
 refine qb (fun _ k => XS.istore X1.here hx rfl (y 8 rfl) rfl (l' := #[vR a0, vR a1, vR t_a0, .unset, .unset, vI 16, .unset, .unset]) rfl k) ?_
 show qG p e below _ (T1.setTop (mkF m 14 #[vR a0, vR a1, vR t_a0, .unset, .unset, vI 16, .unset, .unset] [(.int 16)]))
 refine qb (fun _ k => XS.ifNo X1.here hx rfl (y 9 rfl) rfl ((if0 _ _).trans (tlt (by decide : (0 : Int32) < (16 : Int32))).2.2.2) k) ?_
 show qG p e below _ (T1.setTop (mkF m 17 #[vR a0, vR a1, vR t_a0, .unset, .unset, vI 16, .unset, .unset] []))
 refine qb (fun _ k => XS.aloadN X1.here hx rfl (y 10 rfl) rfl rfl k) ?_
 refine qb (fun _ k => XS.iload X1.here hx rfl (y 11 rfl) rfl k) ?_
 refine qb (fun _ k => XS.iconst X1.here hx rfl (y 12 rfl) k) ?_
 refine qb (fun _ k => XS.isub X1.here hx rfl (y 13 rfl) rfl k) ?_
 refine qb (fun _ k => XS.aloadN X1.here hx rfl (y 14 rfl) rfl rfl k) ?_
 obtain ⟨_, T3, Lc3, X3, hQ3, st3⟩ := own_cS X1 hx hZ hown hml (rmhsh l Z A0 hw [] t_a1 k_t_a1 fn_t_a1 hv_a1 f_CS a1 h0 n0 Z0 P_E_a1 P_F_a1_coder P_F_a1_value P_F_a1_hash P_F_a1_hashIsZero P_V_t_a1 hh_a1 hc_a1 P_S_CS hn_CS g_a1) (hwd 316 rfl) (hwd 317 rfl) (hwd 68 rfl) (hwd 318 rfl) (by decide) pd_316 e1 (g := (mkF m 23 #[vR a0, vR a1, vR t_a0, .unset, .unset, vI 16, .unset, .unset] [(.ref a1), (.int 15), (.ref t_a0)])) (rest := [(.int 15), (.ref t_a0)]) rfl rfl rfl rfl (y 15 rfl) rfl
 obtain ⟨rfl, Nq3, Kq3, F4, F5, F6, F7, F8⟩ := hQ3
 have N3 := Fr.app N0 Nq3
 have K3 : Keep h0 T3.heap [a1] := (Keep.refl h0 [a1]).trans Kq3 ((allS (Or.inl (List.mem_of_getElem? (i := 0) rfl)) all0))
 have Z3 := ql Z0 Kq3.1
 refine qb st3 ?_
 show qG p e below _ (T3.setTop (mkF m 26 #[vR a0, vR a1, vR t_a0, .unset, .unset, vI 16, .unset, .unset] [(.int (((fn_t_a1 0) &&& (255 : Int32)) ^^^ ((((fn_t_a1 0) &&& (255 : Int32)).toUInt32 >>> ((16 : Int32) &&& 31).toUInt32).toInt32))), (.int 15), (.ref t_a0)]))
 refine qb (fun _ k => XS.dup X3.here hx rfl (y 16 rfl) rfl rfl k) ?_
 refine qb (fun _ k => XS.istore X3.here hx rfl (y 17 rfl) rfl (l' := #[vR a0, vR a1, vR t_a0, .unset, .unset, vI 16, vI (((fn_t_a1 0) &&& (255 : Int32)) ^^^ ((((fn_t_a1 0) &&& (255 : Int32)).toUInt32 >>> ((16 : Int32) &&& 31).toUInt32).toInt32)), .unset]) rfl k) ?_
 show qG p e below _ (T3.setTop (mkF m 29 #[vR a0, vR a1, vR t_a0, .unset, .unset, vI 16, vI (((fn_t_a1 0) &&& (255 : Int32)) ^^^ ((((fn_t_a1 0) &&& (255 : Int32)).toUInt32 >>> ((16 : Int32) &&& 31).toUInt32).toInt32)), .unset] [(.int (((fn_t_a1 0) &&& (255 : Int32)) ^^^ ((((fn_t_a1 0) &&& (255 : Int32)).toUInt32 >>> ((16 : Int32) &&& 31).toUInt32).toInt32))), (.int 15), (.ref t_a0)]))
 refine qb (fun _ k => XS.iand X3.here hx rfl (y 18 rfl) rfl k) ?_
 have F9 := (P_V_t_a0.keep Kq3 (ninS (Ne.symm (own_neArr P_E_a1 (hwd 10 rfl) P_V_t_a0)) nin0))
 refine qb (own_ldR X3 hx hZ rfl F9 (j := ((15 : Int32) &&& (((fn_t_a1 0) &&& (255 : Int32)) ^^^ ((((fn_t_a1 0) &&& (255 : Int32)).toUInt32 >>> ((16 : Int32) &&& 31).toUInt32).toInt32)))) hixb (g := (mkF m 30 #[vR a0, vR a1, vR t_a0, .unset, .unset, vI 16, vI (((fn_t_a1 0) &&& (255 : Int32)) ^^^ ((((fn_t_a1 0) &&& (255 : Int32)).toUInt32 >>> ((16 : Int32) &&& 31).toUInt32).toInt32)), .unset] [(.int ((15 : Int32) &&& (((fn_t_a1 0) &&& (255 : Int32)) ^^^ ((((fn_t_a1 0) &&& (255 : Int32)).toUInt32 >>> ((16 : Int32) &&& 31).toUInt32).toInt32)))), (.ref t_a0)])) rfl rfl (y 19 rfl)) ?_
 show qG p e below _ (T3.setTop (mkF m 31 #[vR a0, vR a1, vR t_a0, .unset, .unset, vI 16, vI (((fn_t_a1 0) &&& (255 : Int32)) ^^^ ((((fn_t_a1 0) &&& (255 : Int32)).toUInt32 >>> ((16 : Int32) &&& 31).toUInt32).toInt32)), .unset] [(fn_t_a0 (((15 : Int32) &&& (((fn_t_a1 0) &&& (255 : Int32)) ^^^ ((((fn_t_a1 0) &&& (255 : Int32)).toUInt32 >>> ((16 : Int32) &&& 31).toUInt32).toInt32)))).toNatClampNeg)]))
 rw [hslot]
 show qG p e below _ (T3.setTop (mkF m 31 #[vR a0, vR a1, vR t_a0, .unset, .unset, vI 16, vI (((fn_t_a1 0) &&& (255 : Int32)) ^^^ ((((fn_t_a1 0) &&& (255 : Int32)).toUInt32 >>> ((16 : Int32) &&& 31).toUInt32).toInt32)), .unset] [(.ref nd)]))
 refine qb (fun _ k => XS.dup X3.here hx rfl (y 20 rfl) rfl rfl k) ?_
 refine qb (fun _ k => XS.astoreN X3.here hx rfl (y 21 rfl) rfl rfl (l' := #[vR a0, vR a1, vR t_a0, vR nd, .unset, vI 16, vI (((fn_t_a1 0) &&& (255 : Int32)) ^^^ ((((fn_t_a1 0) &&& (255 : Int32)).toUInt32 >>> ((16 : Int32) &&& 31).toUInt32).toInt32)), .unset]) rfl k) ?_
 show qG p e below _ (T3.setTop (mkF m 33 #[vR a0, vR a1, vR t_a0, vR nd, .unset, vI 16, vI (((fn_t_a1 0) &&& (255 : Int32)) ^^^ ((((fn_t_a1 0) &&& (255 : Int32)).toUInt32 >>> ((16 : Int32) &&& 31).toUInt32).toInt32)), .unset] [(.ref nd)]))
 refine qb (fun _ k => XS.ifnullNo X3.here hx rfl (y 22 rfl) rfl k) ?_
 show qG p e below _ (T3.setTop (mkF m 36 #[vR a0, vR a1, vR t_a0, vR nd, .unset, vI 16, vI (((fn_t_a1 0) &&& (255 : Int32)) ^^^ ((((fn_t_a1 0) &&& (255 : Int32)).toUInt32 >>> ((16 : Int32) &&& 31).toUInt32).toInt32)), .unset] []))
 refine qb (fun _ k => XS.aloadN X3.here hx rfl (y 23 rfl) rfl rfl k) ?_
 have F11 := (P_E_nd.keep Kq3)
 have nq10 := ne_exa F11 F4 (by decide)
 have F12 := (P_F_nd_hash.keep Kq3 (ninS nq10 nin0))
 obtain ⟨T13, X13, e13, st13⟩ := getF X3 hx hZ hown (host := "") (Or.inl (hwd 406 rfl)) Via.refl rfl F12 (g := (mkF m 37 #[vR a0, vR a1, vR t_a0, vR nd, .unset, vI 16, vI (((fn_t_a1 0) &&& (255 : Int32)) ^^^ ((((fn_t_a1 0) &&& (255 : Int32)).toUInt32 >>> ((16 : Int32) &&& 31).toUInt32).toInt32)), .unset] [(.ref nd)])) rfl rfl (y 24 rfl)
 refine qb st13 ?_
 refine qb (fun _ k => XS.iload X13.here hx rfl (y 25 rfl) rfl k) ?_
 refine qb (fun _ k => XS.icmpNo X13.here hx rfl (y 26 rfl) rfl (teq (rfl : (((fn_t_a1 0) &&& (255 : Int32)) ^^^ ((((fn_t_a1 0) &&& (255 : Int32)).toUInt32 >>> ((16 : Int32) &&& 31).toUInt32).toInt32)) = (((fn_t_a1 0) &&& (255 : Int32)) ^^^ ((((fn_t_a1 0) &&& (255 : Int32)).toUInt32 >>> ((16 : Int32) &&& 31).toUInt32).toInt32)))).2 k) ?_
 show qG p e below _ (T13.setTop (mkF m 45 #[vR a0, vR a1, vR t_a0, vR nd, .unset, vI 16, vI (((fn_t_a1 0) &&& (255 : Int32)) ^^^ ((((fn_t_a1 0) &&& (255 : Int32)).toUInt32 >>> ((16 : Int32) &&& 31).toUInt32).toInt32)), .unset] []))
 refine qb (fun _ k => XS.aloadN X13.here hx rfl (y 27 rfl) rfl rfl k) ?_
 have F14 := (P_F_nd_key.keep Kq3 (ninS nq10 nin0))
 obtain ⟨T15, X15, e15, st15⟩ := getF X13 hx hZ hown (host := "") (Or.inl (hwd 407 rfl)) Via.refl e13 F14 (g := (mkF m 46 #[vR a0, vR a1, vR t_a0, vR nd, .unset, vI 16, vI (((fn_t_a1 0) &&& (255 : Int32)) ^^^ ((((fn_t_a1 0) &&& (255 : Int32)).toUInt32 >>> ((16 : Int32) &&& 31).toUInt32).toInt32)), .unset] [(.ref nd)])) rfl rfl (y 28 rfl)
 refine qb st15 ?_
 refine qb (fun _ k => XS.dup X15.here hx rfl (y 29 rfl) rfl rfl k) ?_
 refine qb (fun _ k => XS.astore X15.here hx rfl (y 30 rfl) rfl rfl (l' := #[vR a0, vR a1, vR t_a0, vR nd, .unset, vI 16, vI (((fn_t_a1 0) &&& (255 : Int32)) ^^^ ((((fn_t_a1 0) &&& (255 : Int32)).toUInt32 >>> ((16 : Int32) &&& 31).toUInt32).toInt32)), vR a1]) rfl k) ?_
 show qG p e below _ (T15.setTop (mkF m 52 #[vR a0, vR a1, vR t_a0, vR nd, .unset, vI 16, vI (((fn_t_a1 0) &&& (255 : Int32)) ^^^ ((((fn_t_a1 0) &&& (255 : Int32)).toUInt32 >>> ((16 : Int32) &&& 31).toUInt32).toInt32)), vR a1] [(.ref a1)]))
 refine qb (fun _ k => XS.aloadN X15.here hx rfl (y 31 rfl) rfl rfl k) ?_
 refine qb (fun _ k => Jvm.RoadKit.acmp (g := (mkF m 53 #[vR a0, vR a1, vR t_a0, vR nd, .unset, vI 16, vI (((fn_t_a1 0) &&& (255 : Int32)) ^^^ ((((fn_t_a1 0) &&& (255 : Int32)).toUInt32 >>> ((16 : Int32) &&& 31).toUInt32).toInt32)), vR a1] [(.ref a1), (.ref a1)])) X15 hx rfl rfl rfl (pc0 := 53) (pc' := 69) (same := true) rfl (y 32 rfl) rfl (decide_eq_true rfl) (by decide) (by decide) k) ?_
 show qG p e below _ (T15.setTop (mkF m 69 #[vR a0, vR a1, vR t_a0, vR nd, .unset, vI 16, vI (((fn_t_a1 0) &&& (255 : Int32)) ^^^ ((((fn_t_a1 0) &&& (255 : Int32)).toUInt32 >>> ((16 : Int32) &&& 31).toUInt32).toInt32)), vR a1] []))
 refine qb (fun _ k => XS.aloadN X15.here hx rfl (y 33 rfl) rfl rfl k) ?_
 exact own_retR X15 hx hrt (by decide) rfl (y 34 rfl) hlk e15 ⟨rfl, N3, K3, F4, F5, F6, F7, F8⟩ (by decide) (by decide)
theorem pd_291 : parseMethodDescriptor "(Ljava/lang/Object;)Ljava/util/HashMap$Node;" = some ⟨[(.object "java/lang/Object")], some (.object "java/util/HashMap$Node")⟩ := by decide +kernel
theorem d40 : own_ds jdk_69_method_30_code [(0, .aload_n 0, 1), (1, .aload_n 1, 1), (2, .invokevirtual 158, 3), (5, .dup, 1), (6, .astore_n 3, 1), (7, .ifnonnull 7, 3), (10, .aload_n 2, 1), (11, .goto 7, 3), (14, .aload_n 3, 1), (15, .getfield 162, 3), (18, .areturn, 1)] = true := by decide +kernel
theorem ef_god (m : MethodId) (a0 a1 a2 : Addr) : entryFrame m #[(.ref a0), (.ref a1), (.ref a2)] 4 = mkF m 0 #[vR a0, vR a1, vR a2, .unset] [] := rfl
theorem ob_god_9 (Ky : Nat → Addr) (Cc : Nat → Prop) (Xx : Nat → Int32) (Ii : Nat) (dv f_CS : Int32) (a1 : Addr) (fk1 : Nat → Int32) (hv1 : Int32) (hn_CS : ¬ (f_CS = (0 : Int32))) (hKy : Ky Ii = a1) (hIi : Ii < 5) (hh1 : hv1 = (0 : Int32) ∨ hv1 = ((fk1 0) &&& (255 : Int32))) (hn1 : ¬ (((fk1 0) &&& (255 : Int32)) = (0 : Int32))) (hx1 : ((fk1 0) &&& (255 : Int32)) = own_ch Ii) (hb1 : (¬ ((15 : Int32) &&& (((fk1 0) &&& (255 : Int32)) ^^^ ((((fk1 0) &&& (255 : Int32)).toUInt32 >>> ((16 : Int32) &&& 31).toUInt32).toInt32))) < 0) ∧ ((15 : Int32) &&& (((fk1 0) &&& (255 : Int32)) ^^^ ((((fk1 0) &&& (255 : Int32)).toUInt32 >>> ((16 : Int32) &&& 31).toUInt32).toInt32))) < (16 : Int32)) (hC2 : ¬ Cc Ii) : (Cc Ii → dv = Xx Ii) ∧ (¬ Cc Ii → dv = dv) := by
  first | exact ⟨fun h => absurd h (by assumption), fun _ => rfl⟩ | exact ⟨fun _ => rfl, fun h => absurd (by assumption) h⟩
theorem ob_god_10 (Ky : Nat → Addr) (Cc : Nat → Prop) (Xx : Nat → Int32) (Ii : Nat) (dv f_CS : Int32) (a1 : Addr) (fk1 : Nat → Int32) (hv1 : Int32) (gm2 : Nat → Value) (hn_CS : ¬ (f_CS = (0 : Int32))) (hKy : Ky Ii = a1) (hIi : Ii < 5) (hh1 : hv1 = (0 : Int32) ∨ hv1 = ((fk1 0) &&& (255 : Int32))) (hn1 : ¬ (((fk1 0) &&& (255 : Int32)) = (0 : Int32))) (hx1 : ((fk1 0) &&& (255 : Int32)) = own_ch Ii) (hb1 : (¬ ((15 : Int32) &&& (((fk1 0) &&& (255 : Int32)) ^^^ ((((fk1 0) &&& (255 : Int32)).toUInt32 >>> ((16 : Int32) &&& 31).toUInt32).toInt32))) < 0) ∧ ((15 : Int32) &&& (((fk1 0) &&& (255 : Int32)) ^^^ ((((fk1 0) &&& (255 : Int32)).toUInt32 >>> ((16 : Int32) &&& 31).toUInt32).toInt32))) < (16 : Int32)) (hC2 : ¬ Cc Ii) (hs2 : (gm2 (((15 : Int32) &&& (((fk1 0) &&& (255 : Int32)) ^^^ ((((fk1 0) &&& (255 : Int32)).toUInt32 >>> ((16 : Int32) &&& 31).toUInt32).toInt32)))).toNatClampNeg) = .null) : (Cc Ii → dv = Xx Ii) ∧ (¬ Cc Ii → dv = dv) := by
  first | exact ⟨fun h => absurd h (by assumption), fun _ => rfl⟩ | exact ⟨fun _ => rfl, fun h => absurd (by assumption) h⟩
theorem ob_god_11 (Ky : Nat → Addr) (Cc : Nat → Prop) (Xx : Nat → Int32) (Ii : Nat) (dv f_CS : Int32) (a1 : Addr) (fk1 : Nat → Int32) (hv1 : Int32) (gm2 : Nat → Value) (nd2 : Addr) (hn_CS : ¬ (f_CS = (0 : Int32))) (hKy : Ky Ii = a1) (hIi : Ii < 5) (hh1 : hv1 = (0 : Int32) ∨ hv1 = ((fk1 0) &&& (255 : Int32))) (hn1 : ¬ (((fk1 0) &&& (255 : Int32)) = (0 : Int32))) (hx1 : ((fk1 0) &&& (255 : Int32)) = own_ch Ii) (hb1 : (¬ ((15 : Int32) &&& (((fk1 0) &&& (255 : Int32)) ^^^ ((((fk1 0) &&& (255 : Int32)).toUInt32 >>> ((16 : Int32) &&& 31).toUInt32).toInt32))) < 0) ∧ ((15 : Int32) &&& (((fk1 0) &&& (255 : Int32)) ^^^ ((((fk1 0) &&& (255 : Int32)).toUInt32 >>> ((16 : Int32) &&& 31).toUInt32).toInt32))) < (16 : Int32)) (hC2 : Cc Ii) (hs2 : (gm2 (((15 : Int32) &&& (((fk1 0) &&& (255 : Int32)) ^^^ ((((fk1 0) &&& (255 : Int32)).toUInt32 >>> ((16 : Int32) &&& 31).toUInt32).toInt32)))).toNatClampNeg) = .ref nd2) : (Cc Ii → (Xx Ii) = Xx Ii) ∧ (¬ Cc Ii → (Xx Ii) = dv) := by
  first | exact ⟨fun h => absurd h (by assumption), fun _ => rfl⟩ | exact ⟨fun _ => rfl, fun h => absurd (by assumption) h⟩
def Qgod (Z : State) (Ky : Nat → Addr) (Cc : Nat → Prop) (Xx : Nat → Int32) (Kk : Int) (Lo : Nat) (Ii : Nat) (dv f_CS : Int32) (a0 a1 a2 : Addr) (h0 : Heap) (n0 : Nat) (v : Option Value) (h : Heap) (L : List Loc) : Prop := ∃ (rr : Addr) (z5001 : Int32), v = some (.ref rr) ∧ Fr n0 L ∧ Keep h0 h [a1] ∧ Exa Z h a1 "java/lang/String" ∧ Exa Z h rr "java/lang/Integer" ∧ Fld Z h rr cIN "value" "I" (.int z5001) ∧ own_Ks Z h Ky ∧ ((Cc Ii → z5001 = Xx Ii) ∧ (¬ Cc Ii → z5001 = dv))
theorem rmgod (l : Launch) (Z : State) (A0 : Array Value) (hw : ∀ d ∈ tables_1, d.before A0 Z = true) (ws : List Jvm.Cond) (Ky : Nat → Addr) (Cc : Nat → Prop) (Xx : Nat → Int32) (Kk : Int) (Lo : Nat) (Ii : Nat) (dv f_CS : Int32) (a0 a1 a2 : Addr) (h0 : Heap) (n0 : Nat) (Z0 : n0 ≤ h0.size) (P_E_a0 : Exa Z h0 a0 "java/util/HashMap") (P_M : own_Mp Z h0 a0 Ky Cc Xx Kk Lo) (P_Ks : own_Ks Z h0 Ky) (P_E_a1 : Exa Z h0 a1 "java/lang/String") (P_E_a2 : Exa Z h0 a2 "java/lang/Integer") (P_F_a2_value : Fld Z h0 a2 cIN "value" "I" (.int dv)) (P_S_CS : Sta Z h0 cST "COMPACT_STRINGS" "Z" (.int f_CS)) (hn_CS : ¬ (f_CS = (0 : Int32))) (hKy : Ky Ii = a1) (hIi : Ii < 5) (g_a1 : n0 ≤ a1) :
  qM l Z (⟨"java/util/HashMap", "getOrDefault", "(Ljava/lang/Object;Ljava/lang/Object;)Ljava/lang/Object;"⟩ : MethodName) jdk_69_method_30_code 4 (some (.object "java/lang/Object")) ws ({ frames := 4, cells := 0, slots := 0, locals := 59 } : Room) #[(.ref a0), (.ref a1), (.ref a2)] h0 (Qgod Z Ky Cc Xx Kk Lo Ii dv f_CS a0 a1 a2 h0 n0) 0 0 := qe d40 (plainFor_of_name pn_iHm) (fun m => ef_god m a0 a1 a2) fun p e s m below meth c s₁ hx y hml hlk hown hnm X0 e0 hZ hrt => by
 have hwd := qw hw
 have N0 := Fr.nil n0
 show qG p e below _ (s₁.setTop (mkF m 0 #[vR a0, vR a1, vR a2, .unset] []))
 have Kx1 := P_Ks.2 Ii hIi
 rw [hKy] at Kx1
 obtain ⟨tk1, kk1, fk1, hv1, kE1, kc1, kv1, kh1, kz1, ktE1, ka1, hh1, hx1⟩ := Kx1
 have hn1 : ¬ (((fk1 0) &&& (255 : Int32)) = (0 : Int32)) := own_chn hx1 hIi
 have hb1 := own_ixb hx1 hIi
 obtain ⟨-, -, -, M02 | ⟨tm2, km2, gm2, sm2, Mt2⟩⟩ := id P_M
 ·skip
  have hC2 := M02.2.2.2.2 Ii hIi
  show qG p e below _ (s₁.setTop (mkF m 0 #[vR a0, vR a1, vR a2, .unset] []))
  refine qb (fun _ k => XS.aloadN X0.here hx rfl (y 0 rfl) rfl rfl k) ?_
  refine qb (fun _ k => XS.aloadN X0.here hx rfl (y 1 rfl) rfl rfl k) ?_
  obtain ⟨_, T3, Lc3, X3, hQ3, st3⟩ := own_cV X0 hx hZ hown hml (rmgnN l Z A0 hw [] a0 a1 h0 n0 Z0 P_E_a0 M02.1) (hwd 291 rfl) (hwd 293 rfl) (hwd 68 rfl) (hwd 295 rfl) (by decide) pd_291 e0 (hwd 292 rfl) (hwd 294 rfl) P_E_a0 (g := (mkF m 2 #[vR a0, vR a1, vR a2, .unset] [(.ref a1), (.ref a0)])) (rest := []) rfl rfl rfl rfl (y 2 rfl) rfl
  obtain ⟨rfl, Nq3, eq3⟩ := hQ3
  have N3 := Fr.app N0 Nq3
  refine qb st3 ?_
  show qG p e below _ (T3.setTop (mkF m 5 #[vR a0, vR a1, vR a2, .unset] [.null]))
  refine qb (fun _ k => XS.dup X3.here hx rfl (y 3 rfl) rfl rfl k) ?_
  refine qb (fun _ k => XS.astoreN X3.here hx rfl (y 4 rfl) rfl rfl (l' := #[vR a0, vR a1, vR a2, .val .null]) rfl k) ?_
  show qG p e below _ (T3.setTop (mkF m 7 #[vR a0, vR a1, vR a2, .val .null] [.null]))
  refine qb (fun _ k => XS.ifnonnullNo X3.here hx rfl (y 5 rfl) rfl k) ?_
  show qG p e below _ (T3.setTop (mkF m 10 #[vR a0, vR a1, vR a2, .val .null] []))
  refine qb (fun _ k => XS.aloadN X3.here hx rfl (y 6 rfl) rfl rfl k) ?_
  refine qb (fun _ k => XS.goto X3.here hx rfl (pc0 := 11) (pc' := 18) rfl (y 7 rfl) (by decide) (by decide) k) ?_
  show qG p e below _ (T3.setTop (mkF m 18 #[vR a0, vR a1, vR a2, .val .null] [(.ref a2)]))
  exact own_retR X3 hx hrt (by decide) rfl (y 10 rfl) hlk eq3 ⟨a2, dv, rfl, N3, (Keep.refl h0 [a1]), P_E_a1, P_E_a2, P_F_a2_value, P_Ks, (ob_god_9 Ky Cc Xx Ii dv f_CS a1 fk1 hv1 hn_CS hKy hIi hh1 hn1 hx1 hb1 hC2)⟩ (by decide) (by decide)
 ·skip
  obtain ⟨Ft2, -, -, -, Et2, Vt2, -, Ss2, -⟩ := Mt2
  rcases Ss2.2 Ii hIi with ⟨hC2, hv2⟩ | ⟨hC2, nd2, bd2, hv2, N2⟩
  ·skip
   have hs2 : (gm2 (((15 : Int32) &&& (((fk1 0) &&& (255 : Int32)) ^^^ ((((fk1 0) &&& (255 : Int32)).toUInt32 >>> ((16 : Int32) &&& 31).toUInt32).toInt32)))).toNatClampNeg) = .null := by rw [own_ixx hx1 hIi]; exact hv2
   show qG p e below _ (s₁.setTop (mkF m 0 #[vR a0, vR a1, vR a2, .unset] []))
   refine qb (fun _ k => XS.aloadN X0.here hx rfl (y 0 rfl) rfl rfl k) ?_
   refine qb (fun _ k => XS.aloadN X0.here hx rfl (y 1 rfl) rfl rfl k) ?_
   obtain ⟨_, T4, Lc4, X4, hQ4, st4⟩ := own_cV X0 hx hZ hown hml (rmgnE l Z A0 hw [] tm2 km2 gm2 tk1 kk1 fk1 hv1 f_CS a0 a1 h0 n0 Z0 P_E_a0 Ft2 Vt2 P_E_a1 kc1 kv1 kh1 kz1 ka1 hh1 hn1 P_S_CS hn_CS hb1 hs2 g_a1) (hwd 291 rfl) (hwd 293 rfl) (hwd 68 rfl) (hwd 295 rfl) (by decide) pd_291 e0 (hwd 292 rfl) (hwd 294 rfl) P_E_a0 (g := (mkF m 2 #[vR a0, vR a1, vR a2, .unset] [(.ref a1), (.ref a0)])) (rest := []) rfl rfl rfl rfl (y 2 rfl) rfl
   obtain ⟨rfl, Nq4, Kq4, F5, F6, F7, F8, F9⟩ := hQ4
   have N4 := Fr.app N0 Nq4
   have K4 : Keep h0 T4.heap [a1] := (Keep.refl h0 [a1]).trans Kq4 ((allS (Or.inl (List.mem_of_getElem? (i := 0) rfl)) all0))
   have Z4 := ql Z0 Kq4.1
   refine qb st4 ?_
   show qG p e below _ (T4.setTop (mkF m 5 #[vR a0, vR a1, vR a2, .unset] [.null]))
   have F10 := (ktE1.keep Kq4)
   have nq11 := ne_exa F10 F5 (by decide)
   have F12 := (ka1.keep Kq4 (ninS nq11 nin0))
   have Kf4 : own_Ks Z T4.heap Ky := own_Ks.put (i := Ii) P_Ks Kq4 hIi hKy ((allS (Or.inl rfl) all0)) ⟨_, _, _, _, F5, F6, F7, F8, F9, F10, F12, Or.inr rfl, hx1⟩
   refine qb (fun _ k => XS.dup X4.here hx rfl (y 3 rfl) rfl rfl k) ?_
   refine qb (fun _ k => XS.astoreN X4.here hx rfl (y 4 rfl) rfl rfl (l' := #[vR a0, vR a1, vR a2, .val .null]) rfl k) ?_
   show qG p e below _ (T4.setTop (mkF m 7 #[vR a0, vR a1, vR a2, .val .null] [.null]))
   refine qb (fun _ k => XS.ifnonnullNo X4.here hx rfl (y 5 rfl) rfl k) ?_
   show qG p e below _ (T4.setTop (mkF m 10 #[vR a0, vR a1, vR a2, .val .null] []))
   refine qb (fun _ k => XS.aloadN X4.here hx rfl (y 6 rfl) rfl rfl k) ?_
   refine qb (fun _ k => XS.goto X4.here hx rfl (pc0 := 11) (pc' := 18) rfl (y 7 rfl) (by decide) (by decide) k) ?_
   show qG p e below _ (T4.setTop (mkF m 18 #[vR a0, vR a1, vR a2, .val .null] [(.ref a2)]))
   have F13 := (P_E_a2.keep Kq4)
   have nq14 := ne_exa F13 F5 (by decide)
   have F15 := (P_F_a2_value.keep Kq4 (ninS nq14 nin0))
   exact own_retR X4 hx hrt (by decide) rfl (y 10 rfl) hlk rfl ⟨a2, dv, rfl, N4, K4, F5, F13, F15, Kf4, (ob_god_10 Ky Cc Xx Ii dv f_CS a1 fk1 hv1 gm2 hn_CS hKy hIi hh1 hn1 hx1 hb1 hC2 hs2)⟩ (by decide) (by decide)
  ·skip
   have hs2 : (gm2 (((15 : Int32) &&& (((fk1 0) &&& (255 : Int32)) ^^^ ((((fk1 0) &&& (255 : Int32)).toUInt32 >>> ((16 : Int32) &&& 31).toUInt32).toInt32)))).toNatClampNeg) = .ref nd2 := by rw [own_ixx hx1 hIi]; exact hv2
   have Fh2 : Fld Z h0 nd2 cND "hash" "I" (.int (((fk1 0) &&& (255 : Int32)) ^^^ ((((fk1 0) &&& (255 : Int32)).toUInt32 >>> ((16 : Int32) &&& 31).toUInt32).toInt32))) := by rw [own_hsx hx1 hIi]; exact N2.2.1
   have Fk2 : Fld Z h0 nd2 cND "key" dOb (.ref a1) := by rw [← hKy]; exact N2.2.2.1
   show qG p e below _ (s₁.setTop (mkF m 0 #[vR a0, vR a1, vR a2, .unset] []))
   refine qb (fun _ k => XS.aloadN X0.here hx rfl (y 0 rfl) rfl rfl k) ?_
   refine qb (fun _ k => XS.aloadN X0.here hx rfl (y 1 rfl) rfl rfl k) ?_
   obtain ⟨_, T16, Lc16, X16, hQ16, st16⟩ := own_cV X0 hx hZ hown hml (rmgnH l Z A0 hw [] tm2 km2 gm2 tk1 kk1 fk1 hv1 f_CS nd2 a0 a1 h0 n0 Z0 P_E_a0 Ft2 Vt2 P_E_a1 kc1 kv1 kh1 kz1 ka1 hh1 hn1 P_S_CS hn_CS hb1 hs2 N2.1 Fh2 Fk2 g_a1) (hwd 291 rfl) (hwd 293 rfl) (hwd 68 rfl) (hwd 295 rfl) (by decide) pd_291 e0 (hwd 292 rfl) (hwd 294 rfl) P_E_a0 (g := (mkF m 2 #[vR a0, vR a1, vR a2, .unset] [(.ref a1), (.ref a0)])) (rest := []) rfl rfl rfl rfl (y 2 rfl) rfl
   obtain ⟨rfl, Nq16, Kq16, F17, F18, F19, F20, F21⟩ := hQ16
   have N16 := Fr.app N0 Nq16
   have K16 : Keep h0 T16.heap [a1] := (Keep.refl h0 [a1]).trans Kq16 ((allS (Or.inl (List.mem_of_getElem? (i := 0) rfl)) all0))
   have Z16 := ql Z0 Kq16.1
   refine qb st16 ?_
   show qG p e below _ (T16.setTop (mkF m 5 #[vR a0, vR a1, vR a2, .unset] [(.ref nd2)]))
   have F22 := (ktE1.keep Kq16)
   have nq23 := ne_exa F22 F17 (by decide)
   have F24 := (ka1.keep Kq16 (ninS nq23 nin0))
   have Kf16 : own_Ks Z T16.heap Ky := own_Ks.put (i := Ii) P_Ks Kq16 hIi hKy ((allS (Or.inl rfl) all0)) ⟨_, _, _, _, F17, F18, F19, F20, F21, F22, F24, Or.inr rfl, hx1⟩
   refine qb (fun _ k => XS.dup X16.here hx rfl (y 3 rfl) rfl rfl k) ?_
   refine qb (fun _ k => XS.astoreN X16.here hx rfl (y 4 rfl) rfl rfl (l' := #[vR a0, vR a1, vR a2, vR nd2]) rfl k) ?_
   show qG p e below _ (T16.setTop (mkF m 7 #[vR a0, vR a1, vR a2, vR nd2] [(.ref nd2)]))
   refine qb (fun _ k => XS.ifnonnullYes X16.here hx rfl (pc0 := 7) (pc' := 14) rfl (y 5 rfl) rfl (by decide) (by decide) k) ?_
   show qG p e below _ (T16.setTop (mkF m 14 #[vR a0, vR a1, vR a2, vR nd2] []))
   refine qb (fun _ k => XS.aloadN X16.here hx rfl (y 8 rfl) rfl rfl k) ?_
   have F26 := (N2.1.keep Kq16)
   have nq25 := ne_exa F26 F17 (by decide)
   have F27 := (N2.2.2.2.1.keep Kq16 (ninS nq25 nin0))
   obtain ⟨T28, X28, e28, st28⟩ := getF X16 hx hZ hown (host := "") (Or.inl (hwd 408 rfl)) Via.refl rfl F27 (g := (mkF m 15 #[vR a0, vR a1, vR a2, vR nd2] [(.ref nd2)])) rfl rfl (y 9 rfl)
   refine qb st28 ?_
   have F29 := (N2.2.2.2.2.2.1.keep Kq16)
   have nq30 := ne_exa F29 F17 (by decide)
   have F31 := (N2.2.2.2.2.2.2.keep Kq16 (ninS nq30 nin0))
   exact own_retR X28 hx hrt (by decide) rfl (y 10 rfl) hlk e28 ⟨bd2, (Xx Ii), rfl, N16, K16, F17, F29, F31, Kf16, (ob_god_11 Ky Cc Xx Ii dv f_CS a1 fk1 hv1 gm2 nd2 hn_CS hKy hIi hh1 hn1 hx1 hb1 hC2 hs2)⟩ (by decide) (by decide)
theorem d16 : own_ds jdk_69_method_10_code [(0, .aload_n 0, 1), (1, .getfield 156, 3), (4, .ireturn, 1)] = true := by decide +kernel
theorem ef_hmsz (m : MethodId) (a0 : Addr) : entryFrame m #[(.ref a0)] 1 = mkF m 0 #[vR a0] [] := rfl
def Qhmsz (Z : State) (a0 : Addr) (f_a0_size : Int32) (h0 : Heap) (n0 : Nat) (v : Option Value) (h : Heap) (L : List Loc) : Prop := v = some (.int f_a0_size) ∧ Fr n0 L ∧ h = h0
theorem rmhmsz (l : Launch) (Z : State) (A0 : Array Value) (hw : ∀ d ∈ tables_1, d.before A0 Z = true) (ws : List Jvm.Cond) (a0 : Addr) (f_a0_size : Int32) (h0 : Heap) (n0 : Nat) (Z0 : n0 ≤ h0.size) (P_E_a0 : Exa Z h0 a0 "java/util/HashMap") (P_F_a0_size : Fld Z h0 a0 cHM "size" "I" (.int f_a0_size)) :
  qM l Z (⟨"java/util/HashMap", "size", "()I"⟩ : MethodName) jdk_69_method_10_code 1 (some .int) ws ({ frames := 0, cells := 0, slots := 0, locals := 0 } : Room) #[(.ref a0)] h0 (Qhmsz Z a0 f_a0_size h0 n0) 0 0 := qe d16 (plainFor_of_name pn_iHm) (fun m => ef_hmsz m a0) fun p e s m below meth c s₁ hx y hml hlk hown hnm X0 e0 hZ hrt => by
 have hwd := qw hw
 have N0 := Fr.nil n0
 show qG p e below _ (s₁.setTop (mkF m 0 #[vR a0] []))
 refine qb (fun _ k => XS.aloadN X0.here hx rfl (y 0 rfl) rfl rfl k) ?_
 obtain ⟨T1, X1, e1, st1⟩ := getF X0 hx hZ hown (host := "") (Or.inl (hwd 116 rfl)) Via.refl e0 P_F_a0_size (g := (mkF m 1 #[vR a0] [(.ref a0)])) rfl rfl (y 1 rfl)
 refine qb st1 ?_
 exact own_retI X1 hx hrt (y 2 rfl) hlk e1 ⟨rfl, N0, rfl⟩ (by decide) (by decide)
theorem d18 : own_ds jdk_2571_method_1_code [(0, .aload_n 0, 1), (1, .aload_n 1, 1), (2, .putfield 1, 3), (5, .aload_n 0, 1), (6, .invokespecial 7, 3), (9, .return_, 1)] = true := by decide +kernel
theorem pn_vsi : plainName "java/util/HashMap$Values" = true := by first | (simp [plainName, overriddenIn]; done) | decide +kernel
theorem ef_vsi (m : MethodId) (a0 a1 : Addr) : entryFrame m #[(.ref a0), (.ref a1)] 2 = mkF m 0 #[vR a0, vR a1] [] := rfl
def Qvsi (Z : State) (a0 a1 : Addr) (f_a0_this_0 : Value) (h0 : Heap) (n0 : Nat) (v : Option Value) (h : Heap) (L : List Loc) : Prop := v = none ∧ Fr n0 L ∧ Keep h0 h [a0] ∧ Exa Z h a0 "java/util/HashMap$Values" ∧ Fld Z h a0 "java/util/HashMap$Values" "this$0" "Ljava/util/HashMap;" (.ref a1)
theorem rmvsi (l : Launch) (Z : State) (A0 : Array Value) (hw : ∀ d ∈ tables_1, d.before A0 Z = true) (ws : List Jvm.Cond) (a0 a1 : Addr) (f_a0_this_0 : Value) (h0 : Heap) (n0 : Nat) (Z0 : n0 ≤ h0.size) (P_E_a0 : Exa Z h0 a0 "java/util/HashMap$Values") (P_F_a0_this_0 : Fld Z h0 a0 "java/util/HashMap$Values" "this$0" "Ljava/util/HashMap;" f_a0_this_0) (g_a0 : n0 ≤ a0) :
  qM l Z (⟨"java/util/HashMap$Values", "<init>", "(Ljava/util/HashMap;)V"⟩ : MethodName) jdk_2571_method_1_code 2 none ws ({ frames := 2, cells := 0, slots := 0, locals := 24 } : Room) #[(.ref a0), (.ref a1)] h0 (Qvsi Z a0 a1 f_a0_this_0 h0 n0) 0 0 := qe d18 (plainFor_of_name pn_vsi) (fun m => ef_vsi m a0 a1) fun p e s m below meth c s₁ hx y hml hlk hown hnm X0 e0 hZ hrt => by
 have hwd := qw hw
 have N0 := Fr.nil n0
 show qG p e below _ (s₁.setTop (mkF m 0 #[vR a0, vR a1] []))
 refine qb (fun _ k => XS.aloadN X0.here hx rfl (y 0 rfl) rfl rfl k) ?_
 refine qb (fun _ k => XS.aloadN X0.here hx rfl (y 1 rfl) rfl rfl k) ?_
 obtain ⟨T1, h1, X1, e1, W1, st1⟩ := putF X0 hx hZ hown (host := "") (Or.inl (hwd 136 rfl)) Via.refl e0 P_F_a0_this_0 P_E_a0 (Or.inr ⟨(hwd 137 rfl), rfl, hnm⟩) (hwd 130 rfl) (ty := (.object "java/util/HashMap")) (by decide) rfl rfl (g := (mkF m 2 #[vR a0, vR a1] [(.ref a1), (.ref a0)])) rfl rfl (y 2 rfl)
 have Fw1 : Fld Z h1 a0 "java/util/HashMap$Values" "this$0" "Ljava/util/HashMap;" (.ref a1) := P_F_a0_this_0.same W1
 have K1 : Keep h0 h1 [a0] := (Keep.refl h0 [a0]).wr W1 (Or.inl (List.mem_of_getElem? (i := 0) rfl))
 have Z1 := ql Z0 (Keep.of_wr W1).1
 have N1 := Fr.snoc X1 N0 g_a0
 refine qb st1 ?_
 show qG p e below _ (T1.setTop (mkF m 5 #[vR a0, vR a1] []))
 refine qb (fun _ k => XS.aloadN X1.here hx rfl (y 3 rfl) rfl rfl k) ?_
 obtain ⟨_, T2, Lc2, X2, hQ2, st2⟩ := own_cI X1 hx hZ hown hml (rmiAbstractCollection l Z A0 hw [] a0 h1 n0 Z1 ) (hwd 138 rfl) (hwd 55 rfl) (hwd 58 rfl) (hwd 59 rfl) (by decide) pd_19 e1 rfl (g := (mkF m 6 #[vR a0, vR a1] [(.ref a0)])) (rest := []) rfl rfl rfl rfl (y 4 rfl) rfl
 obtain ⟨rfl, Nq2, eq2⟩ := hQ2
 have N2 := Fr.app N1 Nq2
 refine qb st2 ?_
 show qG p e below _ (T2.setTop (mkF m 9 #[vR a0, vR a1] []))
 have F3 := (P_E_a0.wr W1)
 exact own_ret0 X2 hx hrt (y 5 rfl) hlk eq2 ⟨rfl, N2, K1, F3, Fw1⟩ (by decide) (by decide)
theorem pd_132 : parseMethodDescriptor "(Ljava/util/HashMap;)V" = some ⟨[(.object "java/util/HashMap")], none⟩ := by decide +kernel
theorem d17 : own_ds jdk_69_method_28_code [(0, .aload_n 0, 1), (1, .getfield 259, 3), (4, .astore_n 1, 1), (5, .aload_n 1, 1), (6, .ifnonnull 17, 3), (9, .new 263, 3), (12, .dup, 1), (13, .aload_n 0, 1), (14, .invokespecial 265, 3), (17, .astore_n 1, 1), (18, .aload_n 0, 1), (19, .aload_n 1, 1), (20, .putfield 259, 3), (23, .aload_n 1, 1), (24, .areturn, 1)] = true := by decide +kernel
theorem ef_vals (m : MethodId) (a0 : Addr) : entryFrame m #[(.ref a0)] 2 = mkF m 0 #[vR a0, .unset] [] := rfl
def Qvals (Z : State) (sz_a0 mc_a0 th_a0 : Int32) (lf_a0 : UInt32) (tw_a0 : Value) (a0 : Addr) (h0 : Heap) (n0 : Nat) (v : Option Value) (h : Heap) (L : List Loc) : Prop := ∃ (b2 : Addr), v = some (.ref b2) ∧ Fr n0 L ∧ Keep h0 h [a0] ∧ Exa Z h a0 "java/util/HashMap" ∧ Fld Z h a0 cAM "values" "Ljava/util/Collection;" (.ref b2) ∧ Fld Z h a0 cHM "table" "[Ljava/util/HashMap$Node;" tw_a0 ∧ Fld Z h a0 cHM "size" "I" (.int sz_a0) ∧ Fld Z h a0 cHM "modCount" "I" (.int mc_a0) ∧ Fld Z h a0 cHM "threshold" "I" (.int th_a0) ∧ Fld Z h a0 cHM "loadFactor" "F" (.float lf_a0) ∧ (n0 ≤ b2) ∧ (h0.size ≤ b2) ∧ Exa Z h b2 "java/util/HashMap$Values" ∧ Fld Z h b2 "java/util/HashMap$Values" "this$0" "Ljava/util/HashMap;" (.ref a0)
theorem rmvals (l : Launch) (Z : State) (A0 : Array Value) (hw : ∀ d ∈ tables_1, d.before A0 Z = true) (ws : List Jvm.Cond) (sz_a0 mc_a0 th_a0 : Int32) (lf_a0 : UInt32) (tw_a0 : Value) (a0 : Addr) (h0 : Heap) (n0 : Nat) (Z0 : n0 ≤ h0.size) (P_E_a0 : Exa Z h0 a0 "java/util/HashMap") (P_F_a0_values : Fld Z h0 a0 cAM "values" "Ljava/util/Collection;" .null) (P_F_a0_table : Fld Z h0 a0 cHM "table" "[Ljava/util/HashMap$Node;" tw_a0) (P_F_a0_size : Fld Z h0 a0 cHM "size" "I" (.int sz_a0)) (P_F_a0_modCount : Fld Z h0 a0 cHM "modCount" "I" (.int mc_a0)) (P_F_a0_threshold : Fld Z h0 a0 cHM "threshold" "I" (.int th_a0)) (P_F_a0_loadFactor : Fld Z h0 a0 cHM "loadFactor" "F" (.float lf_a0)) (g_a0 : n0 ≤ a0) :
  qM l Z (⟨"java/util/HashMap", "values", "()Ljava/util/Collection;"⟩ : MethodName) jdk_69_method_28_code 2 (some (.object "java/util/Collection")) ws ({ frames := 3, cells := 1, slots := 1, locals := 38 } : Room) #[(.ref a0)] h0 (Qvals Z sz_a0 mc_a0 th_a0 lf_a0 tw_a0 a0 h0 n0) 1 1 := qe d17 (plainFor_of_name pn_iHm) (fun m => ef_vals m a0) fun p e s m below meth c s₁ hx y hml hlk hown hnm X0 e0 hZ hrt => by
 have hwd := qw hw
 have N0 := Fr.nil n0
 show qG p e below _ (s₁.setTop (mkF m 0 #[vR a0, .unset] []))
 refine qb (fun _ k => XS.aloadN X0.here hx rfl (y 0 rfl) rfl rfl k) ?_
 obtain ⟨T1, X1, e1, st1⟩ := getF X0 hx hZ hown (host := "") (Or.inl (hwd 126 rfl)) (Via.of (hwd 127 rfl)) e0 P_F_a0_values (g := (mkF m 1 #[vR a0, .unset] [(.ref a0)])) rfl rfl (y 1 rfl)
 refine qb st1 ?_
 refine qb (fun _ k => XS.astoreN X1.here hx rfl (y 2 rfl) rfl rfl (l' := #[vR a0, .val .null]) rfl k) ?_
 show qG p e below _ (T1.setTop (mkF m 5 #[vR a0, .val .null] []))
 refine qb (fun _ k => XS.aloadN X1.here hx rfl (y 3 rfl) rfl rfl k) ?_
 refine qb (fun _ k => XS.ifnonnullNo X1.here hx rfl (y 4 rfl) rfl k) ?_
 show qG p e below _ (T1.setTop (mkF m 9 #[vR a0, .val .null] []))
 obtain ⟨T2, h2, X2, e2, E2, A2, D2, -, st2⟩ := newO X1 hx hZ hown (hwd 129 rfl) (hwd 130 rfl) (hwd 131 rfl) e1 (g := (mkF m 9 #[vR a0, .val .null] [])) rfl (y 5 rfl) (by decide) (by decide)
 obtain ⟨b2, g2⟩ : ∃ z, z = h0.size := ⟨_, rfl⟩
 have ge_b2 : n0 ≤ b2 := ql Z0 (Nat.le_of_eq g2.symm)
 have sz_b2 := ql (Keep.refl h0 [a0]).1 (Nat.le_of_eq g2.symm)
 have K2 : Keep h0 h2 [a0] := (Keep.refl h0 [a0]).ext E2
 have Z2 := ql Z0 E2.1
 rw [← g2] at A2 D2 st2
 have F_this_0_b2 : Fld Z h2 b2 "java/util/HashMap$Values" "this$0" "Ljava/util/HashMap;" .null := D2 (Or.inr (hwd 137 rfl)) (ty := (.object "java/util/HashMap")) (by decide)
 refine qb st2 ?_
 show qG p e below _ (T2.setTop (mkF m 12 #[vR a0, .val .null] [(.ref b2)]))
 refine qb (fun _ k => XS.dup X2.here hx rfl (y 6 rfl) rfl rfl k) ?_
 refine qb (fun _ k => XS.aloadN X2.here hx rfl (y 7 rfl) rfl rfl k) ?_
 obtain ⟨_, T3, Lc3, X3, hQ3, st3⟩ := own_cI X2 hx hZ hown hml (rmvsi l Z A0 hw [] b2 a0 (.null) h2 n0 Z2 A2 F_this_0_b2 ge_b2) (hwd 132 rfl) (hwd 133 rfl) (hwd 131 rfl) (hwd 135 rfl) (by decide) pd_132 e2 rfl (g := (mkF m 14 #[vR a0, .val .null] [(.ref a0), (.ref b2), (.ref b2)])) (rest := [(.ref b2)]) rfl rfl rfl rfl (y 8 rfl) rfl
 obtain ⟨rfl, Nq3, Kq3, F4, F5⟩ := hQ3
 have N3 := Fr.app N0 Nq3
 have K3 : Keep h0 T3.heap [a0] := K2.trans Kq3 ((allS (Or.inr sz_b2) all0))
 have Z3 := ql Z2 Kq3.1
 refine qb st3 ?_
 show qG p e below _ (T3.setTop (mkF m 17 #[vR a0, .val .null] [(.ref b2)]))
 refine qb (fun _ k => XS.astoreN X3.here hx rfl (y 9 rfl) rfl rfl (l' := #[vR a0, vR b2]) rfl k) ?_
 show qG p e below _ (T3.setTop (mkF m 18 #[vR a0, vR b2] []))
 refine qb (fun _ k => XS.aloadN X3.here hx rfl (y 10 rfl) rfl rfl k) ?_
 refine qb (fun _ k => XS.aloadN X3.here hx rfl (y 11 rfl) rfl rfl k) ?_
 have F6 := ((P_E_a0.ext E2).keep Kq3)
 have nq7 := ne_exa F6 F4 (by decide)
 have F8 := ((P_F_a0_values.ext E2).keep Kq3 (ninS nq7 nin0))
 obtain ⟨T9, h9, X9, e9, W9, st9⟩ := putF X3 hx hZ hown (host := "") (Or.inl (hwd 126 rfl)) (Via.of (hwd 127 rfl)) rfl F8 F6 (Or.inl (hwd 128 rfl)) (hwd 67 rfl) (ty := (.object "java/util/Collection")) (by decide) rfl rfl (g := (mkF m 20 #[vR a0, vR b2] [(.ref b2), (.ref a0)])) rfl rfl (y 12 rfl)
 have Fw9 : Fld Z h9 a0 cAM "values" "Ljava/util/Collection;" (.ref b2) := F8.same W9
 have K9 : Keep h0 h9 [a0] := K3.wr W9 (Or.inl (List.mem_of_getElem? (i := 0) rfl))
 have Z9 := ql Z3 (Keep.of_wr W9).1
 have N9 := Fr.snoc X9 N3 g_a0
 refine qb st9 ?_
 show qG p e below _ (T9.setTop (mkF m 23 #[vR a0, vR b2] []))
 refine qb (fun _ k => XS.aloadN X9.here hx rfl (y 13 rfl) rfl rfl k) ?_
 have F10 := (F6.wr W9)
 have F11 := (((P_F_a0_table.ext E2).keep Kq3 (ninS nq7 nin0)).other W9 (Or.inr (slot_ne (Or.inl (hwd 170 rfl)) (Or.inl (hwd 128 rfl)) (by decide) (t := (.array (.object "java/util/HashMap$Node"))) (t' := (.object "java/util/Collection")) (by decide) (by decide))))
 have F12 := (((P_F_a0_size.ext E2).keep Kq3 (ninS nq7 nin0)).other W9 (Or.inr (slot_ne (Or.inl (hwd 117 rfl)) (Or.inl (hwd 128 rfl)) (by decide) (t := .int) (t' := (.object "java/util/Collection")) (by decide) (by decide))))
 have F13 := (((P_F_a0_modCount.ext E2).keep Kq3 (ninS nq7 nin0)).other W9 (Or.inr (slot_ne (Or.inl (hwd 166 rfl)) (Or.inl (hwd 128 rfl)) (by decide) (t := .int) (t' := (.object "java/util/Collection")) (by decide) (by decide))))
 have F14 := (((P_F_a0_threshold.ext E2).keep Kq3 (ninS nq7 nin0)).other W9 (Or.inr (slot_ne (Or.inl (hwd 348 rfl)) (Or.inl (hwd 128 rfl)) (by decide) (t := .int) (t' := (.object "java/util/Collection")) (by decide) (by decide))))
 have F15 := (((P_F_a0_loadFactor.ext E2).keep Kq3 (ninS nq7 nin0)).other W9 (Or.inr (slot_ne (Or.inr (hwd 81 rfl)) (Or.inl (hwd 128 rfl)) (by decide) (t := .float) (t' := (.object "java/util/Collection")) (by decide) (by decide))))
 have F16 := (F4.wr W9)
 have F17 := (F5.other W9 (Or.inl (Ne.symm nq7)))
 exact own_retR X9 hx hrt (by decide) rfl (y 14 rfl) hlk e9 ⟨_, rfl, N9, K9, F10, Fw9, F11, F12, F13, F14, F15, ge_b2, sz_b2, F16, F17⟩ (by decide) (by decide)
theorem d21 : own_ds jdk_99_method_1_code [(0, .aload_n 0, 1), (1, .aload_n 1, 1), (2, .putfield 1, 3), (5, .aload_n 0, 1), (6, .invokespecial 7, 3), (9, .aload_n 0, 1), (10, .aload_n 1, 1), (11, .getfield 13, 3), (14, .putfield 19, 3), (17, .aload_n 1, 1), (18, .getfield 22, 3), (21, .astore_n 2, 1), (22, .aload_n 0, 1), (23, .aload_n 0, 1), (24, .aconst_null, 1), (25, .dup_x1, 1), (26, .putfield 26, 3), (29, .putfield 30, 3), (32, .aload_n 0, 1), (33, .iconst 0, 1), (34, .putfield 33, 3), (37, .aload_n 2, 1), (38, .ifnull 40, 3), (41, .aload_n 1, 1), (42, .getfield 36, 3), (45, .ifCond .le 33, 3), (48, .aload_n 0, 1), (49, .getfield 33, 3), (52, .aload_n 2, 1), (53, .arraylength, 1), (54, .if_icmp .ge 24, 3), (57, .aload_n 0, 1), (58, .aload_n 2, 1), (59, .aload_n 0, 1), (60, .dup, 1), (61, .getfield 33, 3), (64, .dup_x1, 1), (65, .iconst 1, 1), (66, .iadd, 1), (67, .putfield 33, 3), (70, .aaload, 1), (71, .dup_x1, 1), (72, .putfield 26, 3), (75, .ifnull (-27), 3), (78, .return_, 1)] = true := by decide +kernel
theorem pn_hii : plainName "java/util/HashMap$HashIterator" = true := by first | (simp [plainName, overriddenIn]; done) | decide +kernel
theorem ef_hii (m : MethodId) (a0 a1 : Addr) : entryFrame m #[(.ref a0), (.ref a1)] 3 = mkF m 0 #[vR a0, vR a1, .unset] [] := rfl
theorem ob_hii_12 (Tw : Value) (hr_Tw : Tw.isRef = true) : True := by
  trivial
theorem ob_hii_13 (Tw : Value) (Sz z42 : Int32) (hr_Tw : Tw.isRef = true) (c31 : (0 : Int32) < Sz) (hi65 : (¬ (z42 < (0 : Int32))) ∧ (z42).toNatClampNeg ≤ 16 ∧ 0 ≤ (z42).toNatClampNeg) (c69 : z42 < (16 : Int32)) : (¬ z42 < 0) ∧ z42 < (16 : Int32) := by
  exact ⟨own_sc4 (by assumption), by assumption⟩
theorem ob_hii_14 (Tw : Value) (Sz z42 : Int32) (hr_Tw : Tw.isRef = true) (c31 : (0 : Int32) < Sz) (hi65 : (¬ (z42 < (0 : Int32))) ∧ (z42).toNatClampNeg ≤ 16 ∧ 0 ≤ (z42).toNatClampNeg) (c69 : z42 < (16 : Int32)) : (z42).toNatClampNeg < 16 := by
  exact own_sc3 (by assumption) (by assumption)
theorem ob_hii_15 (Tw : Value) (Sz : Int32) (gt21 : Nat → Value) (z42 : Int32) (hr_Tw : Tw.isRef = true) (c31 : (0 : Int32) < Sz) (hi65 : (¬ (z42 < (0 : Int32))) ∧ (z42).toNatClampNeg ≤ 16 ∧ 0 ≤ (z42).toNatClampNeg) (c69 : z42 < (16 : Int32)) (hv76 : (gt21 (z42).toNatClampNeg) = .null) : 16 - ((z42 + (1 : Int32))).toNatClampNeg < 16 - (z42).toNatClampNeg := by
  exact own_sc2 (by assumption) (by assumption)
theorem ob_hii_16 (Tw : Value) (Sz : Int32) (gt21 : Nat → Value) (z42 : Int32) (hr_Tw : Tw.isRef = true) (c31 : (0 : Int32) < Sz) (hi65 : (¬ (z42 < (0 : Int32))) ∧ (z42).toNatClampNeg ≤ 16 ∧ 0 ≤ (z42).toNatClampNeg) (c69 : z42 < (16 : Int32)) (hv76 : (gt21 (z42).toNatClampNeg) = .null) : (¬ ((z42 + (1 : Int32)) < (0 : Int32))) ∧ ((z42 + (1 : Int32))).toNatClampNeg ≤ 16 ∧ 0 ≤ ((z42 + (1 : Int32))).toNatClampNeg := by
  exact own_sc1 (by assumption) (by assumption)
theorem ob_hii_17 (Tw : Value) (Sz : Int32) (gt21 : Nat → Value) (z42 : Int32) (nd76 : Addr) (hr_Tw : Tw.isRef = true) (c31 : (0 : Int32) < Sz) (hi65 : (¬ (z42 < (0 : Int32))) ∧ (z42).toNatClampNeg ≤ 16 ∧ 0 ≤ (z42).toNatClampNeg) (c69 : z42 < (16 : Int32)) (hv76 : (gt21 (z42).toNatClampNeg) = .ref nd76) : ¬ z42 < 0 := by
  exact own_sc4 (by assumption)
theorem ob_hii_18 (Tw : Value) (Sz : Int32) (gt21 : Nat → Value) (z42 : Int32) (nd76 : Addr) (hr_Tw : Tw.isRef = true) (c31 : (0 : Int32) < Sz) (hi65 : (¬ (z42 < (0 : Int32))) ∧ (z42).toNatClampNeg ≤ 16 ∧ 0 ≤ (z42).toNatClampNeg) (c69 : z42 < (16 : Int32)) (hv76 : (gt21 (z42).toNatClampNeg) = .ref nd76) : z42 < 16 := by
  assumption
theorem ob_hii_19 (Tw : Value) (Sz : Int32) (gt21 : Nat → Value) (z42 : Int32) (nd76 : Addr) (hr_Tw : Tw.isRef = true) (c31 : (0 : Int32) < Sz) (hi65 : (¬ (z42 < (0 : Int32))) ∧ (z42).toNatClampNeg ≤ 16 ∧ 0 ≤ (z42).toNatClampNeg) (c69 : z42 < (16 : Int32)) (hv76 : (gt21 (z42).toNatClampNeg) = .ref nd76) : 0 ≤ (z42).toNatClampNeg := by
  exact own_sc5 (by assumption)
theorem ob_hii_20 (Tw : Value) (Sz : Int32) (gt21 : Nat → Value) (z42 : Int32) (nd76 : Addr) (hr_Tw : Tw.isRef = true) (c31 : (0 : Int32) < Sz) (hi65 : (¬ (z42 < (0 : Int32))) ∧ (z42).toNatClampNeg ≤ 16 ∧ 0 ≤ (z42).toNatClampNeg) (c69 : z42 < (16 : Int32)) (hv76 : (gt21 (z42).toNatClampNeg) = .ref nd76) : True := by
  trivial
theorem ob_hii_21 (Tw : Value) (Sz z42 : Int32) (hr_Tw : Tw.isRef = true) (c31 : (0 : Int32) < Sz) (hi65 : (¬ (z42 < (0 : Int32))) ∧ (z42).toNatClampNeg ≤ 16 ∧ 0 ≤ (z42).toNatClampNeg) (c69 : ¬ (z42 < (16 : Int32))) : True := by
  trivial
theorem ob_hii_22 (Tw : Value) (Sz : Int32) (hr_Tw : Tw.isRef = true) (c31 : (0 : Int32) < Sz) : (¬ ((0 : Int32) < (0 : Int32))) ∧ 0 ≤ 16 ∧ 0 ≤ 0 := by
  first | exact ⟨by decide, by decide, by decide⟩ | exact ⟨by assumption, by omega, by omega⟩
theorem ob_hii_23 (Tw : Value) (Sz : Int32) (hr_Tw : Tw.isRef = true) (c31 : ¬ ((0 : Int32) < Sz)) : True := by
  trivial
def Qhii (Z : State) (Tw : Value) (Sz Mc : Int32) (a0 a1 : Addr) (f_a0_this_0 : Value) (f_a0_expectedModCount : Int32) (f_a0_next f_a0_current : Value) (f_a0_index : Int32) (h0 : Heap) (n0 : Nat) (v : Option Value) (h : Heap) (L : List Loc) : Prop := v = none ∧ Fr n0 L ∧ Keep h0 h [a0] ∧ Exa Z h a0 "java/util/HashMap$ValueIterator" ∧ Fld Z h a0 cHI "this$0" "Ljava/util/HashMap;" (.ref a1) ∧ Fld Z h a0 cHI "expectedModCount" "I" (.int Mc) ∧ own_Il Z h a0 Tw Sz (0 : Int) 0 ∧ (True)
theorem rmhii (l : Launch) (Z : State) (A0 : Array Value) (hw : ∀ d ∈ tables_1, d.before A0 Z = true) (ws : List Jvm.Cond) (Tw : Value) (Sz Mc : Int32) (a0 a1 : Addr) (f_a0_this_0 : Value) (f_a0_expectedModCount : Int32) (f_a0_next f_a0_current : Value) (f_a0_index : Int32) (h0 : Heap) (n0 : Nat) (Z0 : n0 ≤ h0.size) (P_E_a0 : Exa Z h0 a0 "java/util/HashMap$ValueIterator") (P_E_a1 : Exa Z h0 a1 "java/util/HashMap") (P_F_a1_modCount : Fld Z h0 a1 cHM "modCount" "I" (.int Mc)) (P_F_a1_table : Fld Z h0 a1 cHM "table" "[Ljava/util/HashMap$Node;" Tw) (P_F_a1_size : Fld Z h0 a1 cHM "size" "I" (.int Sz)) (P_Tv : own_Tv Z h0 Tw Sz) (hr_Tw : Tw.isRef = true) (P_F_a0_this_0 : Fld Z h0 a0 cHI "this$0" "Ljava/util/HashMap;" f_a0_this_0) (g_a0 : n0 ≤ a0) (P_F_a0_expectedModCount : Fld Z h0 a0 cHI "expectedModCount" "I" (.int f_a0_expectedModCount)) (P_F_a0_next : Fld Z h0 a0 cHI "next" "Ljava/util/HashMap$Node;" f_a0_next) (P_F_a0_current : Fld Z h0 a0 cHI "current" "Ljava/util/HashMap$Node;" f_a0_current) (P_F_a0_index : Fld Z h0 a0 cHI "index" "I" (.int f_a0_index)) :
  qM l Z (⟨"java/util/HashMap$HashIterator", "<init>", "(Ljava/util/HashMap;)V"⟩ : MethodName) jdk_99_method_1_code 3 none ws ({ frames := 1, cells := 0, slots := 0, locals := 12 } : Room) #[(.ref a0), (.ref a1)] h0 (Qhii Z Tw Sz Mc a0 a1 f_a0_this_0 f_a0_expectedModCount f_a0_next f_a0_current f_a0_index h0 n0) 0 0 := qe d21 (plainFor_of_name pn_hii) (fun m => ef_hii m a0 a1) fun p e s m below meth c s₁ hx y hml hlk hown hnm X0 e0 hZ hrt => by
 have hwd := qw hw
 have N0 := Fr.nil n0
 show qG p e below _ (s₁.setTop (mkF m 0 #[vR a0, vR a1, .unset] []))
 refine qb (fun _ k => XS.aloadN X0.here hx rfl (y 0 rfl) rfl rfl k) ?_
 refine qb (fun _ k => XS.aloadN X0.here hx rfl (y 1 rfl) rfl rfl k) ?_
 obtain ⟨T1, h1, X1, e1, W1, st1⟩ := putF X0 hx hZ hown (host := "") (Or.inl (hwd 162 rfl)) Via.refl e0 P_F_a0_this_0 P_E_a0 (Or.inr ⟨(hwd 163 rfl), rfl, hnm⟩) (hwd 150 rfl) (ty := (.object "java/util/HashMap")) (by decide) rfl rfl (g := (mkF m 2 #[vR a0, vR a1, .unset] [(.ref a1), (.ref a0)])) rfl rfl (y 2 rfl)
 have Fw1 : Fld Z h1 a0 cHI "this$0" "Ljava/util/HashMap;" (.ref a1) := P_F_a0_this_0.same W1
 have K1 : Keep h0 h1 [a0] := (Keep.refl h0 [a0]).wr W1 (Or.inl (List.mem_of_getElem? (i := 0) rfl))
 have Z1 := ql Z0 (Keep.of_wr W1).1
 have N1 := Fr.snoc X1 N0 g_a0
 refine qb st1 ?_
 show qG p e below _ (T1.setTop (mkF m 5 #[vR a0, vR a1, .unset] []))
 refine qb (fun _ k => XS.aloadN X1.here hx rfl (y 3 rfl) rfl rfl k) ?_
 obtain ⟨T2, X2, e2, st2⟩ := initO X1 hx hZ hown (hwd 164 rfl) (hwd 20 rfl) (hwd 21 rfl) e1 (g := (mkF m 6 #[vR a0, vR a1, .unset] [(.ref a0)])) rfl (by rw [hml]; rfl) rfl (y 4 rfl) (by decide) (W := 0) (by show 2 * 0 + _ ≤ _; exact Nat.le_of_eq rfl) (by decide)
 refine qb st2 ?_
 show qG p e below _ (T2.setTop (mkF m 9 #[vR a0, vR a1, .unset] []))
 refine qb (fun _ k => XS.aloadN X2.here hx rfl (y 5 rfl) rfl rfl k) ?_
 refine qb (fun _ k => XS.aloadN X2.here hx rfl (y 6 rfl) rfl rfl k) ?_
 have F4 := (P_E_a1.wr W1)
 have F5 := (P_E_a0.wr W1)
 have nq3 := ne_exa F4 F5 (by decide)
 have F6 := (P_F_a1_modCount.other W1 (Or.inl nq3))
 obtain ⟨T7, X7, e7, st7⟩ := getF X2 hx hZ hown (host := "") (Or.inl (hwd 165 rfl)) Via.refl e2 F6 (g := (mkF m 11 #[vR a0, vR a1, .unset] [(.ref a1), (.ref a0)])) rfl rfl (y 7 rfl)
 refine qb st7 ?_
 have F8 := (P_F_a0_expectedModCount.other W1 (Or.inr (slot_ne (Or.inl (hwd 168 rfl)) (Or.inr (hwd 163 rfl)) (by decide) (t := .int) (t' := (.object "java/util/HashMap")) (by decide) (by decide))))
 obtain ⟨T9, h9, X9, e9, W9, st9⟩ := putF X7 hx hZ hown (host := "") (Or.inl (hwd 167 rfl)) Via.refl e7 F8 F5 (Or.inl (hwd 168 rfl)) (hwd 150 rfl) (ty := .int) (by decide) rfl rfl (g := (mkF m 14 #[vR a0, vR a1, .unset] [(.int Mc), (.ref a0)])) rfl rfl (y 8 rfl)
 have Fw9 : Fld Z h9 a0 cHI "expectedModCount" "I" (.int Mc) := F8.same W9
 have K9 : Keep h0 h9 [a0] := K1.wr W9 (Or.inl (List.mem_of_getElem? (i := 0) rfl))
 have Z9 := ql Z1 (Keep.of_wr W9).1
 have N9 := Fr.snoc X9 N1 g_a0
 refine qb st9 ?_
 show qG p e below _ (T9.setTop (mkF m 17 #[vR a0, vR a1, .unset] []))
 refine qb (fun _ k => XS.aloadN X9.here hx rfl (y 9 rfl) rfl rfl k) ?_
 have F10 := ((P_F_a1_table.other W1 (Or.inl nq3)).other W9 (Or.inl nq3))
 obtain ⟨T11, X11, e11, st11⟩ := getF X9 hx hZ hown (host := "") (Or.inl (hwd 169 rfl)) Via.refl e9 F10 (g := (mkF m 18 #[vR a0, vR a1, .unset] [(.ref a1)])) rfl rfl (y 10 rfl)
 refine qb st11 ?_
 refine qb (fun _ k => XS.astoreN X11.here hx rfl (y 11 rfl) rfl hr_Tw (l' := #[vR a0, vR a1, .val Tw]) (by rcases ref_cases hr_Tw with rfl | ⟨_, rfl⟩ <;> rfl) k) ?_
 show qG p e below _ (T11.setTop (mkF m 22 #[vR a0, vR a1, .val Tw] []))
 refine qb (fun _ k => XS.aloadN X11.here hx rfl (y 12 rfl) rfl rfl k) ?_
 refine qb (fun _ k => XS.aloadN X11.here hx rfl (y 13 rfl) rfl rfl k) ?_
 refine qb (fun _ k => XS.aconstNull X11.here hx rfl (y 14 rfl) k) ?_
 refine qb (fun _ k => XS.dupX1 X11.here hx rfl (y 15 rfl) rfl rfl rfl k) ?_
 show qG p e below _ (T11.setTop (mkF m 26 #[vR a0, vR a1, .val Tw] [.null, (.ref a0), .null, (.ref a0)]))
 have F12 := (F5.wr W9)
 have F13 := ((P_F_a0_next.other W1 (Or.inr (slot_ne (Or.inl (hwd 172 rfl)) (Or.inr (hwd 163 rfl)) (by decide) (t := (.object "java/util/HashMap$Node")) (t' := (.object "java/util/HashMap")) (by decide) (by decide)))).other W9 (Or.inr (slot_ne (Or.inl (hwd 172 rfl)) (Or.inl (hwd 168 rfl)) (by decide) (t := (.object "java/util/HashMap$Node")) (t' := .int) (by decide) (by decide))))
 obtain ⟨T14, h14, X14, e14, W14, st14⟩ := putF X11 hx hZ hown (host := "") (Or.inl (hwd 171 rfl)) Via.refl e11 F13 F12 (Or.inl (hwd 172 rfl)) (hwd 150 rfl) (ty := (.object "java/util/HashMap$Node")) (by decide) rfl rfl (g := (mkF m 26 #[vR a0, vR a1, .val Tw] [.null, (.ref a0), .null, (.ref a0)])) rfl rfl (y 16 rfl)
 have Fw14 : Fld Z h14 a0 cHI "next" "Ljava/util/HashMap$Node;" .null := F13.same W14
 have K14 : Keep h0 h14 [a0] := K9.wr W14 (Or.inl (List.mem_of_getElem? (i := 0) rfl))
 have Z14 := ql Z9 (Keep.of_wr W14).1
 have N14 := Fr.snoc X14 N9 g_a0
 refine qb st14 ?_
 show qG p e below _ (T14.setTop (mkF m 29 #[vR a0, vR a1, .val Tw] [.null, (.ref a0)]))
 have F15 := (F12.wr W14)
 have F16 := (((P_F_a0_current.other W1 (Or.inr (slot_ne (Or.inl (hwd 174 rfl)) (Or.inr (hwd 163 rfl)) (by decide) (t := (.object "java/util/HashMap$Node")) (t' := (.object "java/util/HashMap")) (by decide) (by decide)))).other W9 (Or.inr (slot_ne (Or.inl (hwd 174 rfl)) (Or.inl (hwd 168 rfl)) (by decide) (t := (.object "java/util/HashMap$Node")) (t' := .int) (by decide) (by decide)))).other W14 (Or.inr (slot_ne (Or.inl (hwd 174 rfl)) (Or.inl (hwd 172 rfl)) (by decide) (t := (.object "java/util/HashMap$Node")) (t' := (.object "java/util/HashMap$Node")) (by decide) (by decide))))
 obtain ⟨T17, h17, X17, e17, W17, st17⟩ := putF X14 hx hZ hown (host := "") (Or.inl (hwd 173 rfl)) Via.refl e14 F16 F15 (Or.inl (hwd 174 rfl)) (hwd 150 rfl) (ty := (.object "java/util/HashMap$Node")) (by decide) rfl rfl (g := (mkF m 29 #[vR a0, vR a1, .val Tw] [.null, (.ref a0)])) rfl rfl (y 17 rfl)
 have Fw17 : Fld Z h17 a0 cHI "current" "Ljava/util/HashMap$Node;" .null := F16.same W17
 have K17 : Keep h0 h17 [a0] := K14.wr W17 (Or.inl (List.mem_of_getElem? (i := 0) rfl))
 have Z17 := ql Z14 (Keep.of_wr W17).1
 have N17 := Fr.snoc X17 N14 g_a0
 refine qb st17 ?_
 show qG p e below _ (T17.setTop (mkF m 32 #[vR a0, vR a1, .val Tw] []))
 refine qb (fun _ k => XS.aloadN X17.here hx rfl (y 18 rfl) rfl rfl k) ?_
 refine qb (fun _ k => XS.iconst X17.here hx rfl (y 19 rfl) k) ?_
 have F18 := (F15.wr W17)
 have F19 := ((((P_F_a0_index.other W1 (Or.inr (slot_ne (Or.inl (hwd 176 rfl)) (Or.inr (hwd 163 rfl)) (by decide) (t := .int) (t' := (.object "java/util/HashMap")) (by decide) (by decide)))).other W9 (Or.inr (slot_ne (Or.inl (hwd 176 rfl)) (Or.inl (hwd 168 rfl)) (by decide) (t := .int) (t' := .int) (by decide) (by decide)))).other W14 (Or.inr (slot_ne (Or.inl (hwd 176 rfl)) (Or.inl (hwd 172 rfl)) (by decide) (t := .int) (t' := (.object "java/util/HashMap$Node")) (by decide) (by decide)))).other W17 (Or.inr (slot_ne (Or.inl (hwd 176 rfl)) (Or.inl (hwd 174 rfl)) (by decide) (t := .int) (t' := (.object "java/util/HashMap$Node")) (by decide) (by decide))))
 obtain ⟨T20, h20, X20, e20, W20, st20⟩ := putF X17 hx hZ hown (host := "") (Or.inl (hwd 175 rfl)) Via.refl e17 F19 F18 (Or.inl (hwd 176 rfl)) (hwd 150 rfl) (ty := .int) (by decide) rfl rfl (g := (mkF m 34 #[vR a0, vR a1, .val Tw] [(.int 0), (.ref a0)])) rfl rfl (y 20 rfl)
 have Fw20 : Fld Z h20 a0 cHI "index" "I" (.int 0) := F19.same W20
 have K20 : Keep h0 h20 [a0] := K17.wr W20 (Or.inl (List.mem_of_getElem? (i := 0) rfl))
 have Z20 := ql Z17 (Keep.of_wr W20).1
 have N20 := Fr.snoc X20 N17 g_a0
 refine qb st20 ?_
 show qG p e below _ (T20.setTop (mkF m 37 #[vR a0, vR a1, .val Tw] []))
 have F22 := (((((P_Tv.keep (Keep.of_wr W1) (allS (qo P_E_a0 (by decide)) all0)).keep (Keep.of_wr W9) (allS (qo (P_E_a0.wr W1) (by decide)) all0)).keep (Keep.of_wr W14) (allS (qo ((P_E_a0.wr W1).wr W9) (by decide)) all0)).keep (Keep.of_wr W17) (allS (qo (((P_E_a0.wr W1).wr W9).wr W14) (by decide)) all0)).keep (Keep.of_wr W20) (allS (qo ((((P_E_a0.wr W1).wr W9).wr W14).wr W17) (by decide)) all0))
 rcases F22 with hT21 | ⟨tt21, kt21, gt21, hT21, Et21, Vt21, Tb21, hz21⟩
 ·skip
  refine own_sub (f := fun v_ => T20.setTop (mkF m 37 #[vR a0, vR a1, .val v_] [])) hT21 ?_
  show qG p e below _ (T20.setTop (mkF m 37 #[vR a0, vR a1, .val .null] []))
  refine qb (fun _ k => XS.aloadN X20.here hx rfl (y 21 rfl) rfl rfl k) ?_
  refine qb (fun _ k => XS.ifnullYes X20.here hx rfl (pc0 := 38) (pc' := 78) rfl (y 22 rfl) rfl (by decide) (by decide) k) ?_
  show qG p e below _ (T20.setTop (mkF m 78 #[vR a0, vR a1, .val .null] []))
  have F24 := (F18.wr W20)
  have F25 := ((Fw14.other W17 (Or.inr (slot_ne (Or.inl (hwd 172 rfl)) (Or.inl (hwd 174 rfl)) (by decide) (t := (.object "java/util/HashMap$Node")) (t' := (.object "java/util/HashMap$Node")) (by decide) (by decide)))).other W20 (Or.inr (slot_ne (Or.inl (hwd 172 rfl)) (Or.inl (hwd 176 rfl)) (by decide) (t := (.object "java/util/HashMap$Node")) (t' := .int) (by decide) (by decide))))
  have F26 := (Fw17.other W20 (Or.inr (slot_ne (Or.inl (hwd 174 rfl)) (Or.inl (hwd 176 rfl)) (by decide) (t := (.object "java/util/HashMap$Node")) (t' := .int) (by decide) (by decide))))
  have Il23 : own_Il Z h20 a0 Tw Sz (0 : Int) 0 := own_ilN F24 F26 Fw20 F25 (by decide)
  have F27 := ((((Fw1.other W9 (Or.inr (slot_ne (Or.inr (hwd 163 rfl)) (Or.inl (hwd 168 rfl)) (by decide) (t := (.object "java/util/HashMap")) (t' := .int) (by decide) (by decide)))).other W14 (Or.inr (slot_ne (Or.inr (hwd 163 rfl)) (Or.inl (hwd 172 rfl)) (by decide) (t := (.object "java/util/HashMap")) (t' := (.object "java/util/HashMap$Node")) (by decide) (by decide)))).other W17 (Or.inr (slot_ne (Or.inr (hwd 163 rfl)) (Or.inl (hwd 174 rfl)) (by decide) (t := (.object "java/util/HashMap")) (t' := (.object "java/util/HashMap$Node")) (by decide) (by decide)))).other W20 (Or.inr (slot_ne (Or.inr (hwd 163 rfl)) (Or.inl (hwd 176 rfl)) (by decide) (t := (.object "java/util/HashMap")) (t' := .int) (by decide) (by decide))))
  have F28 := (((Fw9.other W14 (Or.inr (slot_ne (Or.inl (hwd 168 rfl)) (Or.inl (hwd 172 rfl)) (by decide) (t := .int) (t' := (.object "java/util/HashMap$Node")) (by decide) (by decide)))).other W17 (Or.inr (slot_ne (Or.inl (hwd 168 rfl)) (Or.inl (hwd 174 rfl)) (by decide) (t := .int) (t' := (.object "java/util/HashMap$Node")) (by decide) (by decide)))).other W20 (Or.inr (slot_ne (Or.inl (hwd 168 rfl)) (Or.inl (hwd 176 rfl)) (by decide) (t := .int) (t' := .int) (by decide) (by decide))))
  exact own_ret0 X20 hx hrt (y 44 rfl) hlk e20 ⟨rfl, N20, K20, F24, F27, F28, Il23, (ob_hii_12 Tw hr_Tw)⟩ (by decide) (by decide)
 ·skip
  refine own_sub (f := fun v_ => T20.setTop (mkF m 37 #[vR a0, vR a1, .val v_] [])) hT21 ?_
  show qG p e below _ (T20.setTop (mkF m 37 #[vR a0, vR a1, vR tt21] []))
  refine qb (fun _ k => XS.aloadN X20.here hx rfl (y 21 rfl) rfl rfl k) ?_
  refine qb (fun _ k => XS.ifnullNo X20.here hx rfl (y 22 rfl) rfl k) ?_
  show qG p e below _ (T20.setTop (mkF m 41 #[vR a0, vR a1, vR tt21] []))
  refine qb (fun _ k => XS.aloadN X20.here hx rfl (y 23 rfl) rfl rfl k) ?_
  have F29 := (((((P_F_a1_size.other W1 (Or.inl nq3)).other W9 (Or.inl nq3)).other W14 (Or.inl nq3)).other W17 (Or.inl nq3)).other W20 (Or.inl nq3))
  obtain ⟨T30, X30, e30, st30⟩ := getF X20 hx hZ hown (host := "") (Or.inl (hwd 377 rfl)) Via.refl e20 F29 (g := (mkF m 42 #[vR a0, vR a1, vR tt21] [(.ref a1)])) rfl rfl (y 24 rfl)
  refine qb st30 ?_
  by_cases c31 : (0 : Int32) < Sz
  ·skip
   refine qb (fun _ k => XS.ifNo X30.here hx rfl (y 25 rfl) rfl ((if0 _ _).trans (tlt c31).2.2.2) k) ?_
   show qG p e below _ (T30.setTop (mkF m 48 #[vR a0, vR a1, vR tt21] []))
   have F44 := (F18.wr W20)
   have F45 := ((((F4.wr W9).wr W14).wr W17).wr W20)
   have F46 := ((((F6.other W9 (Or.inl nq3)).other W14 (Or.inl nq3)).other W17 (Or.inl nq3)).other W20 (Or.inl nq3))
   have F47 := (((F10.other W14 (Or.inl nq3)).other W17 (Or.inl nq3)).other W20 (Or.inl nq3))
   have F48 := ((((Fw1.other W9 (Or.inr (slot_ne (Or.inr (hwd 163 rfl)) (Or.inl (hwd 168 rfl)) (by decide) (t := (.object "java/util/HashMap")) (t' := .int) (by decide) (by decide)))).other W14 (Or.inr (slot_ne (Or.inr (hwd 163 rfl)) (Or.inl (hwd 172 rfl)) (by decide) (t := (.object "java/util/HashMap")) (t' := (.object "java/util/HashMap$Node")) (by decide) (by decide)))).other W17 (Or.inr (slot_ne (Or.inr (hwd 163 rfl)) (Or.inl (hwd 174 rfl)) (by decide) (t := (.object "java/util/HashMap")) (t' := (.object "java/util/HashMap$Node")) (by decide) (by decide)))).other W20 (Or.inr (slot_ne (Or.inr (hwd 163 rfl)) (Or.inl (hwd 176 rfl)) (by decide) (t := (.object "java/util/HashMap")) (t' := .int) (by decide) (by decide))))
   have F49 := (((Fw9.other W14 (Or.inr (slot_ne (Or.inl (hwd 168 rfl)) (Or.inl (hwd 172 rfl)) (by decide) (t := .int) (t' := (.object "java/util/HashMap$Node")) (by decide) (by decide)))).other W17 (Or.inr (slot_ne (Or.inl (hwd 168 rfl)) (Or.inl (hwd 174 rfl)) (by decide) (t := .int) (t' := (.object "java/util/HashMap$Node")) (by decide) (by decide)))).other W20 (Or.inr (slot_ne (Or.inl (hwd 168 rfl)) (Or.inl (hwd 176 rfl)) (by decide) (t := .int) (t' := .int) (by decide) (by decide))))
   have F50 := ((Fw14.other W17 (Or.inr (slot_ne (Or.inl (hwd 172 rfl)) (Or.inl (hwd 174 rfl)) (by decide) (t := (.object "java/util/HashMap$Node")) (t' := (.object "java/util/HashMap$Node")) (by decide) (by decide)))).other W20 (Or.inr (slot_ne (Or.inl (hwd 172 rfl)) (Or.inl (hwd 176 rfl)) (by decide) (t := (.object "java/util/HashMap$Node")) (t' := .int) (by decide) (by decide))))
   have F51 := (Fw17.other W20 (Or.inr (slot_ne (Or.inl (hwd 174 rfl)) (Or.inl (hwd 176 rfl)) (by decide) (t := (.object "java/util/HashMap$Node")) (t' := .int) (by decide) (by decide))))
   have LP40 : ∀ (fu41 : Nat) (T32 : State) (L33 : List Loc) (h34 : Heap) (z42 : Int32), fu41 = 16 - (z42).toNatClampNeg → Stand p l e ({ frames := 1, cells := 0, slots := 0, locals := 12 } : Room) s m #[(.ref a0), (.ref a1)] below meth c T32 L33 0 0 → T32.heap = h34 → Fr n0 L33 → Keep h0 h34 [a0] → n0 ≤ h34.size → Exa Z h34 a0 "java/util/HashMap$ValueIterator" → Exa Z h34 a1 "java/util/HashMap" → Fld Z h34 a1 cHM "modCount" "I" (.int Mc) → Fld Z h34 a1 cHM "table" "[Ljava/util/HashMap$Node;" Tw → Fld Z h34 a1 cHM "size" "I" (.int Sz) → Fld Z h34 a0 cHI "this$0" "Ljava/util/HashMap;" (.ref a1) → Fld Z h34 a0 cHI "expectedModCount" "I" (.int Mc) → Fld Z h34 a0 cHI "next" "Ljava/util/HashMap$Node;" .null → Fld Z h34 a0 cHI "current" "Ljava/util/HashMap$Node;" .null → Fld Z h34 a0 cHI "index" "I" (.int z42) → Exa Z h34 tt21 "[Ljava/util/HashMap$Node;" → qA Z h34 tt21 kt21 (.object "java/util/HashMap$Node") (16 : Int32) (fun i => gt21 i) → own_Tb Z h34 gt21 → ((¬ (z42 < (0 : Int32))) ∧ (z42).toNatClampNeg ≤ 16 ∧ 0 ≤ (z42).toNatClampNeg) → qG p e below (own_Fin s 0 0 (Qhii Z Tw Sz Mc a0 a1 f_a0_this_0 f_a0_expectedModCount f_a0_next f_a0_current f_a0_index h0 n0)) (T32.setTop (mkF m 48 #[vR a0, vR a1, vR tt21] [])) := by
    intro fu41
    induction fu41 using Nat.strongRecOn with
    | _ fu41 ihfu41 =>
     intro T32 L33 h34 z42 hfu66 X35 e36 N37 K38 Z39 F52 F53 F54 F55 F56 F57 F58 F59 F60 F61 F62 F63 F64 hi65
     refine qb (fun _ k => XS.aloadN X35.here hx rfl (y 26 rfl) rfl rfl k) ?_
     obtain ⟨T67, X67, e67, st67⟩ := getF X35 hx hZ hown (host := "") (Or.inl (hwd 175 rfl)) Via.refl e36 F61 (g := (mkF m 49 #[vR a0, vR a1, vR tt21] [(.ref a0)])) rfl rfl (y 27 rfl)
     refine qb st67 ?_
     refine qb (fun _ k => XS.aloadN X67.here hx rfl (y 28 rfl) rfl rfl k) ?_
     obtain ⟨cl68, Ar68, qq68, S68, M68, H68, G68⟩ := id F63
     refine qb (fun t k => X67.arraylength hx (by rw [e67]; exact Ar68.1) (State.isArrayOf_alike hZ.alike Ar68.2.1) (g := (mkF m 53 #[vR a0, vR a1, vR tt21] [(.ref tt21), (.int z42)])) rfl rfl (y 29 rfl) _ k) ?_
     rw [len_of S68 M68]
     show qG p e below _ (T67.setTop (mkF m 54 #[vR a0, vR a1, vR tt21] [(.int 16), (.int z42)]))
     by_cases c69 : z42 < (16 : Int32)
     ·skip
      refine qb (fun _ k => XS.icmpNo X67.here hx rfl (y 30 rfl) rfl (tlt c69).2.1 k) ?_
      show qG p e below _ (T67.setTop (mkF m 57 #[vR a0, vR a1, vR tt21] []))
      refine qb (fun _ k => XS.aloadN X67.here hx rfl (y 31 rfl) rfl rfl k) ?_
      refine qb (fun _ k => XS.aloadN X67.here hx rfl (y 32 rfl) rfl rfl k) ?_
      refine qb (fun _ k => XS.aloadN X67.here hx rfl (y 33 rfl) rfl rfl k) ?_
      refine qb (fun _ k => XS.dup X67.here hx rfl (y 34 rfl) rfl rfl k) ?_
      obtain ⟨T70, X70, e70, st70⟩ := getF X67 hx hZ hown (host := "") (Or.inl (hwd 175 rfl)) Via.refl e67 F61 (g := (mkF m 61 #[vR a0, vR a1, vR tt21] [(.ref a0), (.ref a0), (.ref tt21), (.ref a0)])) rfl rfl (y 35 rfl)
      refine qb st70 ?_
      refine qb (fun _ k => XS.dupX1 X70.here hx rfl (y 36 rfl) rfl rfl rfl k) ?_
      show qG p e below _ (T70.setTop (mkF m 65 #[vR a0, vR a1, vR tt21] [(.int z42), (.ref a0), (.int z42), (.ref tt21), (.ref a0)]))
      refine qb (fun _ k => XS.iconst X70.here hx rfl (y 37 rfl) k) ?_
      refine qb (fun _ k => XS.iadd X70.here hx rfl (y 38 rfl) rfl k) ?_
      obtain ⟨T71, h71, X71, e71, W71, st71⟩ := putF X70 hx hZ hown (host := "") (Or.inl (hwd 175 rfl)) Via.refl e70 F61 F52 (Or.inl (hwd 176 rfl)) (hwd 150 rfl) (ty := .int) (by decide) rfl rfl (g := (mkF m 67 #[vR a0, vR a1, vR tt21] [(.int (z42 + (1 : Int32))), (.ref a0), (.int z42), (.ref tt21), (.ref a0)])) rfl rfl (y 39 rfl)
      have Fw71 : Fld Z h71 a0 cHI "index" "I" (.int (z42 + (1 : Int32))) := F61.same W71
      have K71 : Keep h0 h71 [a0] := K38.wr W71 (Or.inl (List.mem_of_getElem? (i := 0) rfl))
      have Z71 := ql Z39 (Keep.of_wr W71).1
      have N71 := Fr.snoc X71 N37 g_a0
      refine qb st71 ?_
      show qG p e below _ (T71.setTop (mkF m 70 #[vR a0, vR a1, vR tt21] [(.int z42), (.ref tt21), (.ref a0)]))
      have F73 := (F62.wr W71)
      have F74 := (F52.wr W71)
      have nq72 := ne_exa F73 F74 (by decide)
      have F75 := (F63.other W71 nq72)
      refine qb (own_ldR X71 hx hZ e71 F75 (j := z42) (ob_hii_13 Tw Sz z42 hr_Tw c31 hi65 c69) (g := (mkF m 70 #[vR a0, vR a1, vR tt21] [(.int z42), (.ref tt21), (.ref a0)])) rfl rfl (y 40 rfl)) ?_
      show qG p e below _ (T71.setTop (mkF m 71 #[vR a0, vR a1, vR tt21] [(gt21 (z42).toNatClampNeg), (.ref a0)]))
      have F77 := (F64.keep (Keep.of_wr W71) (allS (qo F52 (by decide)) all0))
      rcases F77 (z42).toNatClampNeg (ob_hii_14 Tw Sz z42 hr_Tw c31 hi65 c69) with hv76 | ⟨nd76, hs76, ky76, bd76, xx76, hv76, N76⟩
      ·skip
       refine own_sub (f := fun v_ => T71.setTop (mkF m 71 #[vR a0, vR a1, vR tt21] [v_, (.ref a0)])) hv76 ?_
       show qG p e below _ (T71.setTop (mkF m 71 #[vR a0, vR a1, vR tt21] [.null, (.ref a0)]))
       refine qb (fun _ k => XS.dupX1 X71.here hx rfl (y 41 rfl) rfl rfl rfl k) ?_
       show qG p e below _ (T71.setTop (mkF m 72 #[vR a0, vR a1, vR tt21] [.null, (.ref a0), .null]))
       have F78 := (F59.other W71 (Or.inr (slot_ne (Or.inl (hwd 172 rfl)) (Or.inl (hwd 176 rfl)) (by decide) (t := (.object "java/util/HashMap$Node")) (t' := .int) (by decide) (by decide))))
       obtain ⟨T79, h79, X79, e79, W79, st79⟩ := putF X71 hx hZ hown (host := "") (Or.inl (hwd 171 rfl)) Via.refl e71 F78 F74 (Or.inl (hwd 172 rfl)) (hwd 150 rfl) (ty := (.object "java/util/HashMap$Node")) (by decide) rfl rfl (g := (mkF m 72 #[vR a0, vR a1, vR tt21] [.null, (.ref a0), .null])) rfl rfl (y 42 rfl)
       have Fw79 : Fld Z h79 a0 cHI "next" "Ljava/util/HashMap$Node;" .null := F78.same W79
       have K79 : Keep h0 h79 [a0] := K71.wr W79 (Or.inl (List.mem_of_getElem? (i := 0) rfl))
       have Z79 := ql Z71 (Keep.of_wr W79).1
       have N79 := Fr.snoc X79 N71 g_a0
       refine qb st79 ?_
       show qG p e below _ (T79.setTop (mkF m 75 #[vR a0, vR a1, vR tt21] [.null]))
       refine qb (fun _ k => XS.ifnullYes X79.here hx rfl (pc0 := 75) (pc' := 48) rfl (y 43 rfl) rfl (by decide) (by decide) k) ?_
       show qG p e below _ (T79.setTop (mkF m 48 #[vR a0, vR a1, vR tt21] []))
       have F80 := (F74.wr W79)
       have F81 := ((F53.wr W71).wr W79)
       have F82 := ((F54.other W71 (Or.inl nq3)).other W79 (Or.inl nq3))
       have F83 := ((F55.other W71 (Or.inl nq3)).other W79 (Or.inl nq3))
       have F84 := ((F56.other W71 (Or.inl nq3)).other W79 (Or.inl nq3))
       have F85 := ((F57.other W71 (Or.inr (slot_ne (Or.inr (hwd 163 rfl)) (Or.inl (hwd 176 rfl)) (by decide) (t := (.object "java/util/HashMap")) (t' := .int) (by decide) (by decide)))).other W79 (Or.inr (slot_ne (Or.inr (hwd 163 rfl)) (Or.inl (hwd 172 rfl)) (by decide) (t := (.object "java/util/HashMap")) (t' := (.object "java/util/HashMap$Node")) (by decide) (by decide))))
       have F86 := ((F58.other W71 (Or.inr (slot_ne (Or.inl (hwd 168 rfl)) (Or.inl (hwd 176 rfl)) (by decide) (t := .int) (t' := .int) (by decide) (by decide)))).other W79 (Or.inr (slot_ne (Or.inl (hwd 168 rfl)) (Or.inl (hwd 172 rfl)) (by decide) (t := .int) (t' := (.object "java/util/HashMap$Node")) (by decide) (by decide))))
       have F87 := ((F60.other W71 (Or.inr (slot_ne (Or.inl (hwd 174 rfl)) (Or.inl (hwd 176 rfl)) (by decide) (t := (.object "java/util/HashMap$Node")) (t' := .int) (by decide) (by decide)))).other W79 (Or.inr (slot_ne (Or.inl (hwd 174 rfl)) (Or.inl (hwd 172 rfl)) (by decide) (t := (.object "java/util/HashMap$Node")) (t' := (.object "java/util/HashMap$Node")) (by decide) (by decide))))
       have F88 := (Fw71.other W79 (Or.inr (slot_ne (Or.inl (hwd 176 rfl)) (Or.inl (hwd 172 rfl)) (by decide) (t := .int) (t' := (.object "java/util/HashMap$Node")) (by decide) (by decide))))
       have F89 := (F73.wr W79)
       have F90 := (F75.other W79 nq72)
       have F91 := (F77.keep (Keep.of_wr W79) (allS (qo (F52.wr W71) (by decide)) all0))
       exact ihfu41 _ (by rw [hfu66]; exact (ob_hii_15 Tw Sz gt21 z42 hr_Tw c31 hi65 c69 hv76)) _ _ _ (z42 + (1 : Int32)) rfl X79 e79 N79 K79 Z79 F80 F81 F82 F83 F84 F85 F86 Fw79 F87 F88 F89 F90 F91 (ob_hii_16 Tw Sz gt21 z42 hr_Tw c31 hi65 c69 hv76)
      ·skip
       refine own_sub (f := fun v_ => T71.setTop (mkF m 71 #[vR a0, vR a1, vR tt21] [v_, (.ref a0)])) hv76 ?_
       show qG p e below _ (T71.setTop (mkF m 71 #[vR a0, vR a1, vR tt21] [(.ref nd76), (.ref a0)]))
       refine qb (fun _ k => XS.dupX1 X71.here hx rfl (y 41 rfl) rfl rfl rfl k) ?_
       show qG p e below _ (T71.setTop (mkF m 72 #[vR a0, vR a1, vR tt21] [(.ref nd76), (.ref a0), (.ref nd76)]))
       have F92 := (F59.other W71 (Or.inr (slot_ne (Or.inl (hwd 172 rfl)) (Or.inl (hwd 176 rfl)) (by decide) (t := (.object "java/util/HashMap$Node")) (t' := .int) (by decide) (by decide))))
       obtain ⟨T93, h93, X93, e93, W93, st93⟩ := putF X71 hx hZ hown (host := "") (Or.inl (hwd 171 rfl)) Via.refl e71 F92 F74 (Or.inl (hwd 172 rfl)) (hwd 150 rfl) (ty := (.object "java/util/HashMap$Node")) (by decide) rfl rfl (g := (mkF m 72 #[vR a0, vR a1, vR tt21] [(.ref nd76), (.ref a0), (.ref nd76)])) rfl rfl (y 42 rfl)
       have Fw93 : Fld Z h93 a0 cHI "next" "Ljava/util/HashMap$Node;" (.ref nd76) := F92.same W93
       have K93 : Keep h0 h93 [a0] := K71.wr W93 (Or.inl (List.mem_of_getElem? (i := 0) rfl))
       have Z93 := ql Z71 (Keep.of_wr W93).1
       have N93 := Fr.snoc X93 N71 g_a0
       refine qb st93 ?_
       show qG p e below _ (T93.setTop (mkF m 75 #[vR a0, vR a1, vR tt21] [(.ref nd76)]))
       refine qb (fun _ k => XS.ifnullNo X93.here hx rfl (y 43 rfl) rfl k) ?_
       show qG p e below _ (T93.setTop (mkF m 78 #[vR a0, vR a1, vR tt21] []))
       have F95 := (F74.wr W93)
       have F96 := (Fw71.other W93 (Or.inr (slot_ne (Or.inl (hwd 176 rfl)) (Or.inl (hwd 172 rfl)) (by decide) (t := .int) (t' := (.object "java/util/HashMap$Node")) (by decide) (by decide))))
       have F97 := ((F60.other W71 (Or.inr (slot_ne (Or.inl (hwd 174 rfl)) (Or.inl (hwd 176 rfl)) (by decide) (t := (.object "java/util/HashMap$Node")) (t' := .int) (by decide) (by decide)))).other W93 (Or.inr (slot_ne (Or.inl (hwd 174 rfl)) (Or.inl (hwd 172 rfl)) (by decide) (t := (.object "java/util/HashMap$Node")) (t' := (.object "java/util/HashMap$Node")) (by decide) (by decide))))
       have F98 := (F73.wr W93)
       have F99 := (F75.other W93 nq72)
       have F100 := (F77.keep (Keep.of_wr W93) (allS (qo (F52.wr W71) (by decide)) all0))
       have F101 := (N76.keep (Keep.of_wr W93) (allS (qo (F52.wr W71) (by decide)) all0))
       have Il94 : own_Il Z h93 a0 Tw Sz (0 : Int) 0 := own_ilS F95 F97 hT21 F98 F99 F100 hv76 F96 Fw93 F101 (ob_hii_17 Tw Sz gt21 z42 nd76 hr_Tw c31 hi65 c69 hv76) (ob_hii_18 Tw Sz gt21 z42 nd76 hr_Tw c31 hi65 c69 hv76) (ob_hii_19 Tw Sz gt21 z42 nd76 hr_Tw c31 hi65 c69 hv76) (Int.le_refl 0) hz21
       have F102 := ((F57.other W71 (Or.inr (slot_ne (Or.inr (hwd 163 rfl)) (Or.inl (hwd 176 rfl)) (by decide) (t := (.object "java/util/HashMap")) (t' := .int) (by decide) (by decide)))).other W93 (Or.inr (slot_ne (Or.inr (hwd 163 rfl)) (Or.inl (hwd 172 rfl)) (by decide) (t := (.object "java/util/HashMap")) (t' := (.object "java/util/HashMap$Node")) (by decide) (by decide))))
       have F103 := ((F58.other W71 (Or.inr (slot_ne (Or.inl (hwd 168 rfl)) (Or.inl (hwd 176 rfl)) (by decide) (t := .int) (t' := .int) (by decide) (by decide)))).other W93 (Or.inr (slot_ne (Or.inl (hwd 168 rfl)) (Or.inl (hwd 172 rfl)) (by decide) (t := .int) (t' := (.object "java/util/HashMap$Node")) (by decide) (by decide))))
       exact own_ret0 X93 hx hrt (y 44 rfl) hlk e93 ⟨rfl, N93, K93, F95, F102, F103, Il94, (ob_hii_20 Tw Sz gt21 z42 nd76 hr_Tw c31 hi65 c69 hv76)⟩ (by decide) (by decide)
     ·skip
      refine qb (fun _ k => XS.icmpYes X67.here hx rfl (pc0 := 54) (pc' := 78) rfl (y 30 rfl) rfl (flt c69).2.1 (by decide) (by decide) k) ?_
      show qG p e below _ (T67.setTop (mkF m 78 #[vR a0, vR a1, vR tt21] []))
      have Il104 : own_Il Z h34 a0 Tw Sz (0 : Int) 0 := own_ilN F52 F60 F61 F59 (by decide)
      exact own_ret0 X67 hx hrt (y 44 rfl) hlk e67 ⟨rfl, N37, K38, F52, F57, F58, Il104, (ob_hii_21 Tw Sz z42 hr_Tw c31 hi65 c69)⟩ (by decide) (by decide)
   exact LP40 _ _ _ _ (0 : Int32) rfl X30 e30 N20 K20 Z20 F44 F45 F46 F47 F29 F48 F49 F50 F51 Fw20 Et21 Vt21 Tb21 (ob_hii_22 Tw Sz hr_Tw c31)
  ·skip
   refine qb (fun _ k => XS.ifYes X30.here hx rfl (pc0 := 45) (pc' := 78) rfl (y 25 rfl) rfl ((if0 _ _).trans (flt c31).2.2.2) (by decide) (by decide) k) ?_
   show qG p e below _ (T30.setTop (mkF m 78 #[vR a0, vR a1, vR tt21] []))
   have F106 := (F18.wr W20)
   have F107 := ((Fw14.other W17 (Or.inr (slot_ne (Or.inl (hwd 172 rfl)) (Or.inl (hwd 174 rfl)) (by decide) (t := (.object "java/util/HashMap$Node")) (t' := (.object "java/util/HashMap$Node")) (by decide) (by decide)))).other W20 (Or.inr (slot_ne (Or.inl (hwd 172 rfl)) (Or.inl (hwd 176 rfl)) (by decide) (t := (.object "java/util/HashMap$Node")) (t' := .int) (by decide) (by decide))))
   have F108 := (Fw17.other W20 (Or.inr (slot_ne (Or.inl (hwd 174 rfl)) (Or.inl (hwd 176 rfl)) (by decide) (t := (.object "java/util/HashMap$Node")) (t' := .int) (by decide) (by decide))))
   have Il105 : own_Il Z h20 a0 Tw Sz (0 : Int) 0 := own_ilN F106 F108 Fw20 F107 (by decide)
   have F109 := ((((Fw1.other W9 (Or.inr (slot_ne (Or.inr (hwd 163 rfl)) (Or.inl (hwd 168 rfl)) (by decide) (t := (.object "java/util/HashMap")) (t' := .int) (by decide) (by decide)))).other W14 (Or.inr (slot_ne (Or.inr (hwd 163 rfl)) (Or.inl (hwd 172 rfl)) (by decide) (t := (.object "java/util/HashMap")) (t' := (.object "java/util/HashMap$Node")) (by decide) (by decide)))).other W17 (Or.inr (slot_ne (Or.inr (hwd 163 rfl)) (Or.inl (hwd 174 rfl)) (by decide) (t := (.object "java/util/HashMap")) (t' := (.object "java/util/HashMap$Node")) (by decide) (by decide)))).other W20 (Or.inr (slot_ne (Or.inr (hwd 163 rfl)) (Or.inl (hwd 176 rfl)) (by decide) (t := (.object "java/util/HashMap")) (t' := .int) (by decide) (by decide))))
   have F110 := (((Fw9.other W14 (Or.inr (slot_ne (Or.inl (hwd 168 rfl)) (Or.inl (hwd 172 rfl)) (by decide) (t := .int) (t' := (.object "java/util/HashMap$Node")) (by decide) (by decide)))).other W17 (Or.inr (slot_ne (Or.inl (hwd 168 rfl)) (Or.inl (hwd 174 rfl)) (by decide) (t := .int) (t' := (.object "java/util/HashMap$Node")) (by decide) (by decide)))).other W20 (Or.inr (slot_ne (Or.inl (hwd 168 rfl)) (Or.inl (hwd 176 rfl)) (by decide) (t := .int) (t' := .int) (by decide) (by decide))))
   exact own_ret0 X30 hx hrt (y 44 rfl) hlk e30 ⟨rfl, N20, K20, F106, F109, F110, Il105, (ob_hii_23 Tw Sz hr_Tw c31)⟩ (by decide) (by decide)
theorem d20 : own_ds jdk_2569_method_1_code [(0, .aload_n 0, 1), (1, .aload_n 1, 1), (2, .invokespecial 1, 3), (5, .return_, 1)] = true := by decide +kernel
theorem pn_vii : plainName "java/util/HashMap$ValueIterator" = true := by first | (simp [plainName, overriddenIn]; done) | decide +kernel
theorem ef_vii (m : MethodId) (a0 a1 : Addr) : entryFrame m #[(.ref a0), (.ref a1)] 2 = mkF m 0 #[vR a0, vR a1] [] := rfl
def Qvii (Z : State) (Tw : Value) (Sz Mc : Int32) (a0 a1 : Addr) (f_a0_this_0 : Value) (f_a0_expectedModCount : Int32) (f_a0_next f_a0_current : Value) (f_a0_index : Int32) (h0 : Heap) (n0 : Nat) (v : Option Value) (h : Heap) (L : List Loc) : Prop := v = none ∧ Fr n0 L ∧ Keep h0 h [a0] ∧ Exa Z h a0 "java/util/HashMap$ValueIterator" ∧ Fld Z h a0 cHI "this$0" "Ljava/util/HashMap;" (.ref a1) ∧ Fld Z h a0 cHI "expectedModCount" "I" (.int Mc) ∧ own_Il Z h a0 Tw Sz (0 : Int) 0
theorem rmvii (l : Launch) (Z : State) (A0 : Array Value) (hw : ∀ d ∈ tables_1, d.before A0 Z = true) (ws : List Jvm.Cond) (Tw : Value) (Sz Mc : Int32) (a0 a1 : Addr) (f_a0_this_0 : Value) (f_a0_expectedModCount : Int32) (f_a0_next f_a0_current : Value) (f_a0_index : Int32) (h0 : Heap) (n0 : Nat) (Z0 : n0 ≤ h0.size) (P_E_a0 : Exa Z h0 a0 "java/util/HashMap$ValueIterator") (P_E_a1 : Exa Z h0 a1 "java/util/HashMap") (P_F_a1_modCount : Fld Z h0 a1 cHM "modCount" "I" (.int Mc)) (P_F_a1_table : Fld Z h0 a1 cHM "table" "[Ljava/util/HashMap$Node;" Tw) (P_F_a1_size : Fld Z h0 a1 cHM "size" "I" (.int Sz)) (P_Tv : own_Tv Z h0 Tw Sz) (hr_Tw : Tw.isRef = true) (P_F_a0_this_0 : Fld Z h0 a0 cHI "this$0" "Ljava/util/HashMap;" f_a0_this_0) (P_F_a0_expectedModCount : Fld Z h0 a0 cHI "expectedModCount" "I" (.int f_a0_expectedModCount)) (P_F_a0_next : Fld Z h0 a0 cHI "next" "Ljava/util/HashMap$Node;" f_a0_next) (P_F_a0_current : Fld Z h0 a0 cHI "current" "Ljava/util/HashMap$Node;" f_a0_current) (P_F_a0_index : Fld Z h0 a0 cHI "index" "I" (.int f_a0_index)) (g_a0 : n0 ≤ a0) :
  qM l Z (⟨"java/util/HashMap$ValueIterator", "<init>", "(Ljava/util/HashMap;)V"⟩ : MethodName) jdk_2569_method_1_code 2 none ws ({ frames := 2, cells := 0, slots := 0, locals := 26 } : Room) #[(.ref a0), (.ref a1)] h0 (Qvii Z Tw Sz Mc a0 a1 f_a0_this_0 f_a0_expectedModCount f_a0_next f_a0_current f_a0_index h0 n0) 0 0 := qe d20 (plainFor_of_name pn_vii) (fun m => ef_vii m a0 a1) fun p e s m below meth c s₁ hx y hml hlk hown hnm X0 e0 hZ hrt => by
 have hwd := qw hw
 have N0 := Fr.nil n0
 show qG p e below _ (s₁.setTop (mkF m 0 #[vR a0, vR a1] []))
 refine qb (fun _ k => XS.aloadN X0.here hx rfl (y 0 rfl) rfl rfl k) ?_
 refine qb (fun _ k => XS.aloadN X0.here hx rfl (y 1 rfl) rfl rfl k) ?_
 obtain ⟨_, T1, Lc1, X1, hQ1, st1⟩ := own_cI X0 hx hZ hown hml (rmhii l Z A0 hw [] Tw Sz Mc a0 a1 f_a0_this_0 f_a0_expectedModCount f_a0_next f_a0_current f_a0_index h0 n0 Z0 P_E_a0 P_E_a1 P_F_a1_modCount P_F_a1_table P_F_a1_size P_Tv hr_Tw P_F_a0_this_0 g_a0 P_F_a0_expectedModCount P_F_a0_next P_F_a0_current P_F_a0_index) (hwd 156 rfl) (hwd 157 rfl) (hwd 160 rfl) (hwd 161 rfl) (by decide) pd_132 e0 rfl (g := (mkF m 2 #[vR a0, vR a1] [(.ref a1), (.ref a0)])) (rest := []) rfl rfl rfl rfl (y 2 rfl) rfl
 obtain ⟨rfl, Nq1, Kq1, F2, F3, F4, F5, hp6⟩ := hQ1
 have N1 := Fr.app N0 Nq1
 have K1 : Keep h0 T1.heap [a0] := (Keep.refl h0 [a0]).trans Kq1 ((allS (Or.inl (List.mem_of_getElem? (i := 0) rfl)) all0))
 have Z1 := ql Z0 Kq1.1
 refine qb st1 ?_
 show qG p e below _ (T1.setTop (mkF m 5 #[vR a0, vR a1] []))
 exact own_ret0 X1 hx hrt (y 3 rfl) hlk rfl ⟨rfl, N1, K1, F2, F3, F4, F5⟩ (by decide) (by decide)
theorem d19 : own_ds jdk_2571_method_4_code [(0, .new 22, 3), (3, .dup, 1), (4, .aload_n 0, 1), (5, .getfield 1, 3), (8, .invokespecial 24, 3), (11, .areturn, 1)] = true := by decide +kernel
theorem ef_vit (m : MethodId) (a0 : Addr) : entryFrame m #[(.ref a0)] 1 = mkF m 0 #[vR a0] [] := rfl
def Qvit (Z : State) (m_ : Addr) (Tw : Value) (Sz Mc : Int32) (a0 : Addr) (h0 : Heap) (n0 : Nat) (v : Option Value) (h : Heap) (L : List Loc) : Prop := ∃ (b1 : Addr), v = some (.ref b1) ∧ Fr n0 L ∧ Keep h0 h [] ∧ (n0 ≤ b1) ∧ (h0.size ≤ b1) ∧ Exa Z h b1 "java/util/HashMap$ValueIterator" ∧ Fld Z h b1 cHI "this$0" "Ljava/util/HashMap;" (.ref m_) ∧ Fld Z h b1 cHI "expectedModCount" "I" (.int Mc) ∧ own_Il Z h b1 Tw Sz (0 : Int) 0
theorem rmvit (l : Launch) (Z : State) (A0 : Array Value) (hw : ∀ d ∈ tables_1, d.before A0 Z = true) (ws : List Jvm.Cond) (m_ : Addr) (Tw : Value) (Sz Mc : Int32) (a0 : Addr) (h0 : Heap) (n0 : Nat) (Z0 : n0 ≤ h0.size) (P_E_a0 : Exa Z h0 a0 "java/util/HashMap$Values") (P_F_a0_this_0 : Fld Z h0 a0 "java/util/HashMap$Values" "this$0" "Ljava/util/HashMap;" (.ref m_)) (P_E_m_ : Exa Z h0 m_ "java/util/HashMap") (P_F_m__modCount : Fld Z h0 m_ cHM "modCount" "I" (.int Mc)) (P_F_m__table : Fld Z h0 m_ cHM "table" "[Ljava/util/HashMap$Node;" Tw) (P_F_m__size : Fld Z h0 m_ cHM "size" "I" (.int Sz)) (P_Tv : own_Tv Z h0 Tw Sz) (hr_Tw : Tw.isRef = true) :
  qM l Z (⟨"java/util/HashMap$Values", "iterator", "()Ljava/util/Iterator;"⟩ : MethodName) jdk_2571_method_4_code 1 (some (.object "java/util/Iterator")) ws ({ frames := 3, cells := 1, slots := 5, locals := 40 } : Room) #[(.ref a0)] h0 (Qvit Z m_ Tw Sz Mc a0 h0 n0) 1 5 := qe d19 (plainFor_of_name pn_vsi) (fun m => ef_vit m a0) fun p e s m below meth c s₁ hx y hml hlk hown hnm X0 e0 hZ hrt => by
 have hwd := qw hw
 have N0 := Fr.nil n0
 show qG p e below _ (s₁.setTop (mkF m 0 #[vR a0] []))
 obtain ⟨T1, h1, X1, e1, E1, A1, D1, -, st1⟩ := newO X0 hx hZ hown (hwd 149 rfl) (hwd 150 rfl) (hwd 151 rfl) e0 (g := (mkF m 0 #[vR a0] [])) rfl (y 0 rfl) (by decide) (by decide)
 obtain ⟨b1, g1⟩ : ∃ z, z = h0.size := ⟨_, rfl⟩
 have ge_b1 : n0 ≤ b1 := ql Z0 (Nat.le_of_eq g1.symm)
 have sz_b1 := ql (Keep.refl h0 []).1 (Nat.le_of_eq g1.symm)
 have K1 : Keep h0 h1 [] := (Keep.refl h0 []).ext E1
 have Z1 := ql Z0 E1.1
 rw [← g1] at A1 D1 st1
 have F_this_0_b1 : Fld Z h1 b1 cHI "this$0" "Ljava/util/HashMap;" .null := D1 (Or.inr (hwd 163 rfl)) (ty := (.object "java/util/HashMap")) (by decide)
 have F_expectedModCount_b1 : Fld Z h1 b1 cHI "expectedModCount" "I" (.int 0) := D1 (Or.inl (hwd 168 rfl)) (ty := .int) (by decide)
 have F_next_b1 : Fld Z h1 b1 cHI "next" "Ljava/util/HashMap$Node;" .null := D1 (Or.inl (hwd 172 rfl)) (ty := (.object "java/util/HashMap$Node")) (by decide)
 have F_current_b1 : Fld Z h1 b1 cHI "current" "Ljava/util/HashMap$Node;" .null := D1 (Or.inl (hwd 174 rfl)) (ty := (.object "java/util/HashMap$Node")) (by decide)
 have F_index_b1 : Fld Z h1 b1 cHI "index" "I" (.int 0) := D1 (Or.inl (hwd 176 rfl)) (ty := .int) (by decide)
 refine qb st1 ?_
 show qG p e below _ (T1.setTop (mkF m 3 #[vR a0] [(.ref b1)]))
 refine qb (fun _ k => XS.dup X1.here hx rfl (y 1 rfl) rfl rfl k) ?_
 refine qb (fun _ k => XS.aloadN X1.here hx rfl (y 2 rfl) rfl rfl k) ?_
 have F2 := (P_F_a0_this_0.ext E1)
 obtain ⟨T3, X3, e3, st3⟩ := getF X1 hx hZ hown (host := "") (Or.inl (hwd 136 rfl)) Via.refl e1 F2 (g := (mkF m 5 #[vR a0] [(.ref a0), (.ref b1), (.ref b1)])) rfl rfl (y 3 rfl)
 refine qb st3 ?_
 have F4 := (P_E_m_.ext E1)
 have F5 := (P_F_m__modCount.ext E1)
 have F6 := (P_F_m__table.ext E1)
 have F7 := (P_F_m__size.ext E1)
 have F8 := (P_Tv.ext E1)
 obtain ⟨_, T9, Lc9, X9, hQ9, st9⟩ := own_cI X3 hx hZ hown hml (rmvii l Z A0 hw [] Tw Sz Mc b1 m_ (.null) (0 : Int32) (.null) (.null) (0 : Int32) h1 n0 Z1 A1 F4 F5 F6 F7 F8 hr_Tw F_this_0_b1 F_expectedModCount_b1 F_next_b1 F_current_b1 F_index_b1 ge_b1) (hwd 152 rfl) (hwd 153 rfl) (hwd 151 rfl) (hwd 155 rfl) (by decide) pd_132 e3 rfl (g := (mkF m 8 #[vR a0] [(.ref m_), (.ref b1), (.ref b1)])) (rest := [(.ref b1)]) rfl rfl rfl rfl (y 4 rfl) rfl
 obtain ⟨rfl, Nq9, Kq9, F10, F11, F12, F13⟩ := hQ9
 have N9 := Fr.app N0 Nq9
 have K9 : Keep h0 T9.heap [] := K1.trans Kq9 ((allS (Or.inr sz_b1) all0))
 have Z9 := ql Z1 Kq9.1
 refine qb st9 ?_
 show qG p e below _ (T9.setTop (mkF m 11 #[vR a0] [(.ref b1)]))
 exact own_retR X9 hx hrt (by decide) rfl (y 5 rfl) hlk rfl ⟨_, rfl, N9, K9, ge_b1, sz_b1, F10, F11, F12, F13⟩ (by decide) (by decide)
theorem d22 : own_ds jdk_99_method_2_code [(0, .aload_n 0, 1), (1, .getfield 26, 3), (4, .ifnull 7, 3), (7, .iconst 1, 1), (8, .goto 4, 3), (11, .iconst 0, 1), (12, .ireturn, 1)] = true := by decide +kernel
theorem ef_hnN (m : MethodId) (a0 : Addr) : entryFrame m #[(.ref a0)] 1 = mkF m 0 #[vR a0] [] := rfl
def QhnN (Z : State) (a0 : Addr) (h0 : Heap) (n0 : Nat) (v : Option Value) (h : Heap) (L : List Loc) : Prop := v = some (.int 0) ∧ Fr n0 L ∧ h = h0
theorem rmhnN (l : Launch) (Z : State) (A0 : Array Value) (hw : ∀ d ∈ tables_1, d.before A0 Z = true) (ws : List Jvm.Cond) (a0 : Addr) (h0 : Heap) (n0 : Nat) (Z0 : n0 ≤ h0.size) (P_E_a0 : Exa Z h0 a0 "java/util/HashMap$ValueIterator") (P_F_a0_next : Fld Z h0 a0 cHI "next" "Ljava/util/HashMap$Node;" .null) :
  qM l Z (⟨"java/util/HashMap$HashIterator", "hasNext", "()Z"⟩ : MethodName) jdk_99_method_2_code 1 (some .boolean) ws ({ frames := 0, cells := 0, slots := 0, locals := 0 } : Room) #[(.ref a0)] h0 (QhnN Z a0 h0 n0) 0 0 := qe d22 (plainFor_of_name pn_hii) (fun m => ef_hnN m a0) fun p e s m below meth c s₁ hx y hml hlk hown hnm X0 e0 hZ hrt => by
 have hwd := qw hw
 have N0 := Fr.nil n0
 show qG p e below _ (s₁.setTop (mkF m 0 #[vR a0] []))
 refine qb (fun _ k => XS.aloadN X0.here hx rfl (y 0 rfl) rfl rfl k) ?_
 obtain ⟨T1, X1, e1, st1⟩ := getF X0 hx hZ hown (host := "") (Or.inl (hwd 171 rfl)) Via.refl e0 P_F_a0_next (g := (mkF m 1 #[vR a0] [(.ref a0)])) rfl rfl (y 1 rfl)
 refine qb st1 ?_
 refine qb (fun _ k => XS.ifnullYes X1.here hx rfl (pc0 := 4) (pc' := 11) rfl (y 2 rfl) rfl (by decide) (by decide) k) ?_
 show qG p e below _ (T1.setTop (mkF m 11 #[vR a0] []))
 refine qb (fun _ k => XS.iconst X1.here hx rfl (y 5 rfl) k) ?_
 exact own_retN X1 hx (t := .boolean) hrt (by simp) (y 6 rfl) hlk e1 ⟨rfl, N0, rfl⟩ (by decide) (by decide)
theorem ef_hnS (m : MethodId) (a0 : Addr) : entryFrame m #[(.ref a0)] 1 = mkF m 0 #[vR a0] [] := rfl
def QhnS (Z : State) (nd a0 : Addr) (h0 : Heap) (n0 : Nat) (v : Option Value) (h : Heap) (L : List Loc) : Prop := v = some (.int 1) ∧ Fr n0 L ∧ h = h0
theorem rmhnS (l : Launch) (Z : State) (A0 : Array Value) (hw : ∀ d ∈ tables_1, d.before A0 Z = true) (ws : List Jvm.Cond) (nd a0 : Addr) (h0 : Heap) (n0 : Nat) (Z0 : n0 ≤ h0.size) (P_E_a0 : Exa Z h0 a0 "java/util/HashMap$ValueIterator") (P_F_a0_next : Fld Z h0 a0 cHI "next" "Ljava/util/HashMap$Node;" (.ref nd)) :
  qM l Z (⟨"java/util/HashMap$HashIterator", "hasNext", "()Z"⟩ : MethodName) jdk_99_method_2_code 1 (some .boolean) ws ({ frames := 0, cells := 0, slots := 0, locals := 0 } : Room) #[(.ref a0)] h0 (QhnS Z nd a0 h0 n0) 0 0 := qe d22 (plainFor_of_name pn_hii) (fun m => ef_hnS m a0) fun p e s m below meth c s₁ hx y hml hlk hown hnm X0 e0 hZ hrt => by
 have hwd := qw hw
 have N0 := Fr.nil n0
 show qG p e below _ (s₁.setTop (mkF m 0 #[vR a0] []))
 refine qb (fun _ k => XS.aloadN X0.here hx rfl (y 0 rfl) rfl rfl k) ?_
 obtain ⟨T1, X1, e1, st1⟩ := getF X0 hx hZ hown (host := "") (Or.inl (hwd 171 rfl)) Via.refl e0 P_F_a0_next (g := (mkF m 1 #[vR a0] [(.ref a0)])) rfl rfl (y 1 rfl)
 refine qb st1 ?_
 refine qb (fun _ k => XS.ifnullNo X1.here hx rfl (y 2 rfl) rfl k) ?_
 show qG p e below _ (T1.setTop (mkF m 7 #[vR a0] []))
 refine qb (fun _ k => XS.iconst X1.here hx rfl (y 3 rfl) k) ?_
 refine qb (fun _ k => XS.goto X1.here hx rfl (pc0 := 8) (pc' := 12) rfl (y 4 rfl) (by decide) (by decide) k) ?_
 show qG p e below _ (T1.setTop (mkF m 12 #[vR a0] [(.int 1)]))
 exact own_retN X1 hx (t := .boolean) hrt (by simp) (y 6 rfl) hlk e1 ⟨rfl, N0, rfl⟩ (by decide) (by decide)
theorem d55 : own_ds jdk_99_method_3_code [(0, .aload_n 0, 1), (1, .getfield 26, 3), (4, .astore_n 2, 1), (5, .aload_n 0, 1), (6, .getfield 1, 3), (9, .getfield 13, 3), (12, .aload_n 0, 1), (13, .getfield 19, 3), (16, .if_icmp .eq 11, 3), (27, .aload_n 2, 1), (28, .ifnonnull 11, 3), (39, .aload_n 0, 1), (40, .aload_n 0, 1), (41, .aload_n 2, 1), (42, .dup_x1, 1), (43, .putfield 30, 3), (46, .getfield 45, 3), (49, .dup_x1, 1), (50, .putfield 26, 3), (53, .ifnonnull 45, 3), (56, .aload_n 0, 1), (57, .getfield 1, 3), (60, .getfield 22, 3), (63, .dup, 1), (64, .astore_n 1, 1), (65, .ifnull 33, 3), (68, .aload_n 0, 1), (69, .getfield 33, 3), (72, .aload_n 1, 1), (73, .arraylength, 1), (74, .if_icmp .ge 24, 3), (77, .aload_n 0, 1), (78, .aload_n 1, 1), (79, .aload_n 0, 1), (80, .dup, 1), (81, .getfield 33, 3), (84, .dup_x1, 1), (85, .iconst 1, 1), (86, .iadd, 1), (87, .putfield 33, 3), (90, .aaload, 1), (91, .dup_x1, 1), (92, .putfield 26, 3), (95, .ifnull (-27), 3), (98, .aload_n 2, 1), (99, .areturn, 1)] = true := by decide +kernel
theorem ef_nn (m : MethodId) (a0 : Addr) : entryFrame m #[(.ref a0)] 3 = mkF m 0 #[vR a0, .unset, .unset] [] := rfl
theorem ob_nn_24 (tt : Addr) (fn_tt : Nat → Value) (ix : Int32) (Tw : Value) (Sz : Int32) (Cq : Int) (Jj : Nat) (z30 : Int32) (htw : Tw = .ref tt) (hix0 : ¬ (ix < (0 : Int32))) (hixj : (ix).toNatClampNeg = Jj) (hj16 : Jj ≤ 16) (hcq : Cq + 1 ≤ (own_ct fn_tt Jj : Int)) (hsz : (own_ct fn_tt 16 : Int) = Sz.toInt) (hi56 : (¬ (z30 < (0 : Int32))) ∧ (z30).toNatClampNeg ≤ 16 ∧ Jj ≤ (z30).toNatClampNeg) (c60 : z30 < (16 : Int32)) : (¬ z30 < 0) ∧ z30 < (16 : Int32) := by
  exact ⟨own_sc4 (by assumption), by assumption⟩
theorem ob_nn_25 (tt : Addr) (fn_tt : Nat → Value) (ix : Int32) (Tw : Value) (Sz : Int32) (Cq : Int) (Jj : Nat) (z30 : Int32) (htw : Tw = .ref tt) (hix0 : ¬ (ix < (0 : Int32))) (hixj : (ix).toNatClampNeg = Jj) (hj16 : Jj ≤ 16) (hcq : Cq + 1 ≤ (own_ct fn_tt Jj : Int)) (hsz : (own_ct fn_tt 16 : Int) = Sz.toInt) (hi56 : (¬ (z30 < (0 : Int32))) ∧ (z30).toNatClampNeg ≤ 16 ∧ Jj ≤ (z30).toNatClampNeg) (c60 : z30 < (16 : Int32)) : (z30).toNatClampNeg < 16 := by
  exact own_sc3 (by assumption) (by assumption)
theorem ob_nn_26 (tt : Addr) (fn_tt : Nat → Value) (ix : Int32) (Tw : Value) (Sz : Int32) (Cq : Int) (Jj : Nat) (z30 : Int32) (htw : Tw = .ref tt) (hix0 : ¬ (ix < (0 : Int32))) (hixj : (ix).toNatClampNeg = Jj) (hj16 : Jj ≤ 16) (hcq : Cq + 1 ≤ (own_ct fn_tt Jj : Int)) (hsz : (own_ct fn_tt 16 : Int) = Sz.toInt) (hi56 : (¬ (z30 < (0 : Int32))) ∧ (z30).toNatClampNeg ≤ 16 ∧ Jj ≤ (z30).toNatClampNeg) (c60 : z30 < (16 : Int32)) (hv67 : (fn_tt (z30).toNatClampNeg) = .null) : 16 - ((z30 + (1 : Int32))).toNatClampNeg < 16 - (z30).toNatClampNeg := by
  exact own_sc2 (by assumption) (by assumption)
theorem ob_nn_27 (tt : Addr) (fn_tt : Nat → Value) (ix : Int32) (Tw : Value) (Sz : Int32) (Cq : Int) (Jj : Nat) (z30 : Int32) (htw : Tw = .ref tt) (hix0 : ¬ (ix < (0 : Int32))) (hixj : (ix).toNatClampNeg = Jj) (hj16 : Jj ≤ 16) (hcq : Cq + 1 ≤ (own_ct fn_tt Jj : Int)) (hsz : (own_ct fn_tt 16 : Int) = Sz.toInt) (hi56 : (¬ (z30 < (0 : Int32))) ∧ (z30).toNatClampNeg ≤ 16 ∧ Jj ≤ (z30).toNatClampNeg) (c60 : z30 < (16 : Int32)) (hv67 : (fn_tt (z30).toNatClampNeg) = .null) : (¬ ((z30 + (1 : Int32)) < (0 : Int32))) ∧ ((z30 + (1 : Int32))).toNatClampNeg ≤ 16 ∧ Jj ≤ ((z30 + (1 : Int32))).toNatClampNeg := by
  exact own_sc1 (by assumption) (by assumption)
theorem ob_nn_28 (tt : Addr) (fn_tt : Nat → Value) (ix : Int32) (Tw : Value) (Sz : Int32) (Cq : Int) (Jj : Nat) (z30 : Int32) (nd67 : Addr) (htw : Tw = .ref tt) (hix0 : ¬ (ix < (0 : Int32))) (hixj : (ix).toNatClampNeg = Jj) (hj16 : Jj ≤ 16) (hcq : Cq + 1 ≤ (own_ct fn_tt Jj : Int)) (hsz : (own_ct fn_tt 16 : Int) = Sz.toInt) (hi56 : (¬ (z30 < (0 : Int32))) ∧ (z30).toNatClampNeg ≤ 16 ∧ Jj ≤ (z30).toNatClampNeg) (c60 : z30 < (16 : Int32)) (hv67 : (fn_tt (z30).toNatClampNeg) = .ref nd67) : ¬ z30 < 0 := by
  exact own_sc4 (by assumption)
theorem ob_nn_29 (tt : Addr) (fn_tt : Nat → Value) (ix : Int32) (Tw : Value) (Sz : Int32) (Cq : Int) (Jj : Nat) (z30 : Int32) (nd67 : Addr) (htw : Tw = .ref tt) (hix0 : ¬ (ix < (0 : Int32))) (hixj : (ix).toNatClampNeg = Jj) (hj16 : Jj ≤ 16) (hcq : Cq + 1 ≤ (own_ct fn_tt Jj : Int)) (hsz : (own_ct fn_tt 16 : Int) = Sz.toInt) (hi56 : (¬ (z30 < (0 : Int32))) ∧ (z30).toNatClampNeg ≤ 16 ∧ Jj ≤ (z30).toNatClampNeg) (c60 : z30 < (16 : Int32)) (hv67 : (fn_tt (z30).toNatClampNeg) = .ref nd67) : z30 < 16 := by
  assumption
theorem ob_nn_30 (tt : Addr) (fn_tt : Nat → Value) (ix : Int32) (Tw : Value) (Sz : Int32) (Cq : Int) (Jj : Nat) (z30 : Int32) (nd67 : Addr) (htw : Tw = .ref tt) (hix0 : ¬ (ix < (0 : Int32))) (hixj : (ix).toNatClampNeg = Jj) (hj16 : Jj ≤ 16) (hcq : Cq + 1 ≤ (own_ct fn_tt Jj : Int)) (hsz : (own_ct fn_tt 16 : Int) = Sz.toInt) (hi56 : (¬ (z30 < (0 : Int32))) ∧ (z30).toNatClampNeg ≤ 16 ∧ Jj ≤ (z30).toNatClampNeg) (c60 : z30 < (16 : Int32)) (hv67 : (fn_tt (z30).toNatClampNeg) = .ref nd67) : Jj ≤ (z30).toNatClampNeg := by
  exact own_sc5 (by assumption)
theorem ob_nn_31 (tt : Addr) (fn_tt : Nat → Value) (ix : Int32) (Tw : Value) (Sz : Int32) (Cq : Int) (Jj : Nat) (z30 : Int32) (nd67 : Addr) (htw : Tw = .ref tt) (hix0 : ¬ (ix < (0 : Int32))) (hixj : (ix).toNatClampNeg = Jj) (hj16 : Jj ≤ 16) (hcq : Cq + 1 ≤ (own_ct fn_tt Jj : Int)) (hsz : (own_ct fn_tt 16 : Int) = Sz.toInt) (hi56 : (¬ (z30 < (0 : Int32))) ∧ (z30).toNatClampNeg ≤ 16 ∧ Jj ≤ (z30).toNatClampNeg) (c60 : z30 < (16 : Int32)) (hv67 : (fn_tt (z30).toNatClampNeg) = .ref nd67) : True := by
  trivial
theorem ob_nn_32 (tt : Addr) (fn_tt : Nat → Value) (ix : Int32) (Tw : Value) (Sz : Int32) (Cq : Int) (Jj : Nat) (z30 : Int32) (htw : Tw = .ref tt) (hix0 : ¬ (ix < (0 : Int32))) (hixj : (ix).toNatClampNeg = Jj) (hj16 : Jj ≤ 16) (hcq : Cq + 1 ≤ (own_ct fn_tt Jj : Int)) (hsz : (own_ct fn_tt 16 : Int) = Sz.toInt) (hi56 : (¬ (z30 < (0 : Int32))) ∧ (z30).toNatClampNeg ≤ 16 ∧ Jj ≤ (z30).toNatClampNeg) (c60 : ¬ (z30 < (16 : Int32))) : True := by
  trivial
theorem ob_nn_33 (tt : Addr) (fn_tt : Nat → Value) (ix : Int32) (Tw : Value) (Sz : Int32) (Cq : Int) (Jj : Nat) (htw : Tw = .ref tt) (hix0 : ¬ (ix < (0 : Int32))) (hixj : (ix).toNatClampNeg = Jj) (hj16 : Jj ≤ 16) (hcq : Cq + 1 ≤ (own_ct fn_tt Jj : Int)) (hsz : (own_ct fn_tt 16 : Int) = Sz.toInt) : (¬ (ix < (0 : Int32))) ∧ (ix).toNatClampNeg ≤ 16 ∧ Jj ≤ (ix).toNatClampNeg := by
  first | exact ⟨by decide, by decide, by decide⟩ | exact ⟨by assumption, by omega, by omega⟩
def Qnn (Z : State) (nd m_ tt : Addr) (k_tt : ClassId) (fn_tt : Nat → Value) (ix Mc : Int32) (Tw : Value) (Sz : Int32) (Cq : Int) (Jj : Nat) (a0 : Addr) (f_a0_current : Value) (h0 : Heap) (n0 : Nat) (v : Option Value) (h : Heap) (L : List Loc) : Prop := v = some (.ref nd) ∧ Fr n0 L ∧ Keep h0 h [a0] ∧ Exa Z h a0 "java/util/HashMap$ValueIterator" ∧ Fld Z h a0 cHI "this$0" "Ljava/util/HashMap;" (.ref m_) ∧ Fld Z h a0 cHI "expectedModCount" "I" (.int Mc) ∧ own_Il Z h a0 Tw Sz (Cq + 1) Jj ∧ (True)
theorem rmnn (l : Launch) (Z : State) (A0 : Array Value) (hw : ∀ d ∈ tables_1, d.before A0 Z = true) (ws : List Jvm.Cond) (nd m_ tt : Addr) (k_tt : ClassId) (fn_tt : Nat → Value) (ix Mc : Int32) (Tw : Value) (Sz : Int32) (Cq : Int) (Jj : Nat) (a0 : Addr) (f_a0_current : Value) (h0 : Heap) (n0 : Nat) (Z0 : n0 ≤ h0.size) (P_E_a0 : Exa Z h0 a0 "java/util/HashMap$ValueIterator") (P_F_a0_next : Fld Z h0 a0 cHI "next" "Ljava/util/HashMap$Node;" (.ref nd)) (P_F_a0_index : Fld Z h0 a0 cHI "index" "I" (.int ix)) (P_F_a0_this_0 : Fld Z h0 a0 cHI "this$0" "Ljava/util/HashMap;" (.ref m_)) (P_F_a0_expectedModCount : Fld Z h0 a0 cHI "expectedModCount" "I" (.int Mc)) (P_E_m_ : Exa Z h0 m_ "java/util/HashMap") (P_F_m__modCount : Fld Z h0 m_ cHM "modCount" "I" (.int Mc)) (P_F_m__table : Fld Z h0 m_ cHM "table" "[Ljava/util/HashMap$Node;" (.ref tt)) (P_E_tt : Exa Z h0 tt "[Ljava/util/HashMap$Node;") (P_V_tt : qA Z h0 tt k_tt (.object "java/util/HashMap$Node") (16 : Int32) (fun i => fn_tt i)) (P_Tb : own_Tb Z h0 fn_tt) (P_E_nd : Exa Z h0 nd "java/util/HashMap$Node") (P_F_nd_next : Fld Z h0 nd cND "next" "Ljava/util/HashMap$Node;" .null) (htw : Tw = .ref tt) (hix0 : ¬ (ix < (0 : Int32))) (hixj : (ix).toNatClampNeg = Jj) (hj16 : Jj ≤ 16) (hcq : Cq + 1 ≤ (own_ct fn_tt Jj : Int)) (hsz : (own_ct fn_tt 16 : Int) = Sz.toInt) (P_F_a0_current : Fld Z h0 a0 cHI "current" "Ljava/util/HashMap$Node;" f_a0_current) (g_a0 : n0 ≤ a0) :
  qM l Z (⟨"java/util/HashMap$HashIterator", "nextNode", "()Ljava/util/HashMap$Node;"⟩ : MethodName) jdk_99_method_3_code 3 (some (.object "java/util/HashMap$Node")) ws ({ frames := 0, cells := 0, slots := 0, locals := 0 } : Room) #[(.ref a0)] h0 (Qnn Z nd m_ tt k_tt fn_tt ix Mc Tw Sz Cq Jj a0 f_a0_current h0 n0) 0 0 := qe d55 (plainFor_of_name pn_hii) (fun m => ef_nn m a0) fun p e s m below meth c s₁ hx y hml hlk hown hnm X0 e0 hZ hrt => by
 have hwd := qw hw
 have N0 := Fr.nil n0
 show qG p e below _ (s₁.setTop (mkF m 0 #[vR a0, .unset, .unset] []))
 refine qb (fun _ k => XS.aloadN X0.here hx rfl (y 0 rfl) rfl rfl k) ?_
 obtain ⟨T1, X1, e1, st1⟩ := getF X0 hx hZ hown (host := "") (Or.inl (hwd 171 rfl)) Via.refl e0 P_F_a0_next (g := (mkF m 1 #[vR a0, .unset, .unset] [(.ref a0)])) rfl rfl (y 1 rfl)
 refine qb st1 ?_
 refine qb (fun _ k => XS.astoreN X1.here hx rfl (y 2 rfl) rfl rfl (l' := #[vR a0, .unset, vR nd]) rfl k) ?_
 show qG p e below _ (T1.setTop (mkF m 5 #[vR a0, .unset, vR nd] []))
 refine qb (fun _ k => XS.aloadN X1.here hx rfl (y 3 rfl) rfl rfl k) ?_
 obtain ⟨T2, X2, e2, st2⟩ := getF X1 hx hZ hown (host := "") (Or.inl (hwd 162 rfl)) Via.refl e1 P_F_a0_this_0 (g := (mkF m 6 #[vR a0, .unset, vR nd] [(.ref a0)])) rfl rfl (y 4 rfl)
 refine qb st2 ?_
 obtain ⟨T3, X3, e3, st3⟩ := getF X2 hx hZ hown (host := "") (Or.inl (hwd 165 rfl)) Via.refl e2 P_F_m__modCount (g := (mkF m 9 #[vR a0, .unset, vR nd] [(.ref m_)])) rfl rfl (y 5 rfl)
 refine qb st3 ?_
 refine qb (fun _ k => XS.aloadN X3.here hx rfl (y 6 rfl) rfl rfl k) ?_
 obtain ⟨T4, X4, e4, st4⟩ := getF X3 hx hZ hown (host := "") (Or.inl (hwd 167 rfl)) Via.refl e3 P_F_a0_expectedModCount (g := (mkF m 13 #[vR a0, .unset, vR nd] [(.ref a0), (.int Mc)])) rfl rfl (y 7 rfl)
 refine qb st4 ?_
 refine qb (fun _ k => XS.icmpYes X4.here hx rfl (pc0 := 16) (pc' := 27) rfl (y 8 rfl) rfl (teq (rfl : Mc = Mc)).1 (by decide) (by decide) k) ?_
 show qG p e below _ (T4.setTop (mkF m 27 #[vR a0, .unset, vR nd] []))
 refine qb (fun _ k => XS.aloadN X4.here hx rfl (y 9 rfl) rfl rfl k) ?_
 refine qb (fun _ k => XS.ifnonnullYes X4.here hx rfl (pc0 := 28) (pc' := 39) rfl (y 10 rfl) rfl (by decide) (by decide) k) ?_
 show qG p e below _ (T4.setTop (mkF m 39 #[vR a0, .unset, vR nd] []))
 refine qb (fun _ k => XS.aloadN X4.here hx rfl (y 11 rfl) rfl rfl k) ?_
 refine qb (fun _ k => XS.aloadN X4.here hx rfl (y 12 rfl) rfl rfl k) ?_
 refine qb (fun _ k => XS.aloadN X4.here hx rfl (y 13 rfl) rfl rfl k) ?_
 refine qb (fun _ k => XS.dupX1 X4.here hx rfl (y 14 rfl) rfl rfl rfl k) ?_
 show qG p e below _ (T4.setTop (mkF m 43 #[vR a0, .unset, vR nd] [(.ref nd), (.ref a0), (.ref nd), (.ref a0)]))
 obtain ⟨T5, h5, X5, e5, W5, st5⟩ := putF X4 hx hZ hown (host := "") (Or.inl (hwd 173 rfl)) Via.refl e4 P_F_a0_current P_E_a0 (Or.inl (hwd 174 rfl)) (hwd 150 rfl) (ty := (.object "java/util/HashMap$Node")) (by decide) rfl rfl (g := (mkF m 43 #[vR a0, .unset, vR nd] [(.ref nd), (.ref a0), (.ref nd), (.ref a0)])) rfl rfl (y 15 rfl)
 have Fw5 : Fld Z h5 a0 cHI "current" "Ljava/util/HashMap$Node;" (.ref nd) := P_F_a0_current.same W5
 have K5 : Keep h0 h5 [a0] := (Keep.refl h0 [a0]).wr W5 (Or.inl (List.mem_of_getElem? (i := 0) rfl))
 have Z5 := ql Z0 (Keep.of_wr W5).1
 have N5 := Fr.snoc X5 N0 g_a0
 refine qb st5 ?_
 show qG p e below _ (T5.setTop (mkF m 46 #[vR a0, .unset, vR nd] [(.ref nd), (.ref a0)]))
 have F7 := (P_E_nd.wr W5)
 have F8 := (P_E_a0.wr W5)
 have nq6 := ne_exa F7 F8 (by decide)
 have F9 := (P_F_nd_next.other W5 (Or.inl nq6))
 obtain ⟨T10, X10, e10, st10⟩ := getF X5 hx hZ hown (host := "") (Or.inl (hwd 392 rfl)) Via.refl e5 F9 (g := (mkF m 46 #[vR a0, .unset, vR nd] [(.ref nd), (.ref a0)])) rfl rfl (y 16 rfl)
 refine qb st10 ?_
 refine qb (fun _ k => XS.dupX1 X10.here hx rfl (y 17 rfl) rfl rfl rfl k) ?_
 show qG p e below _ (T10.setTop (mkF m 50 #[vR a0, .unset, vR nd] [.null, (.ref a0), .null]))
 have F11 := (P_F_a0_next.other W5 (Or.inr (slot_ne (Or.inl (hwd 172 rfl)) (Or.inl (hwd 174 rfl)) (by decide) (t := (.object "java/util/HashMap$Node")) (t' := (.object "java/util/HashMap$Node")) (by decide) (by decide))))
 obtain ⟨T12, h12, X12, e12, W12, st12⟩ := putF X10 hx hZ hown (host := "") (Or.inl (hwd 171 rfl)) Via.refl e10 F11 F8 (Or.inl (hwd 172 rfl)) (hwd 150 rfl) (ty := (.object "java/util/HashMap$Node")) (by decide) rfl rfl (g := (mkF m 50 #[vR a0, .unset, vR nd] [.null, (.ref a0), .null])) rfl rfl (y 18 rfl)
 have Fw12 : Fld Z h12 a0 cHI "next" "Ljava/util/HashMap$Node;" .null := F11.same W12
 have K12 : Keep h0 h12 [a0] := K5.wr W12 (Or.inl (List.mem_of_getElem? (i := 0) rfl))
 have Z12 := ql Z5 (Keep.of_wr W12).1
 have N12 := Fr.snoc X12 N5 g_a0
 refine qb st12 ?_
 show qG p e below _ (T12.setTop (mkF m 53 #[vR a0, .unset, vR nd] [.null]))
 refine qb (fun _ k => XS.ifnonnullNo X12.here hx rfl (y 19 rfl) rfl k) ?_
 show qG p e below _ (T12.setTop (mkF m 56 #[vR a0, .unset, vR nd] []))
 refine qb (fun _ k => XS.aloadN X12.here hx rfl (y 20 rfl) rfl rfl k) ?_
 have F13 := ((P_F_a0_this_0.other W5 (Or.inr (slot_ne (Or.inr (hwd 163 rfl)) (Or.inl (hwd 174 rfl)) (by decide) (t := (.object "java/util/HashMap")) (t' := (.object "java/util/HashMap$Node")) (by decide) (by decide)))).other W12 (Or.inr (slot_ne (Or.inr (hwd 163 rfl)) (Or.inl (hwd 172 rfl)) (by decide) (t := (.object "java/util/HashMap")) (t' := (.object "java/util/HashMap$Node")) (by decide) (by decide))))
 obtain ⟨T14, X14, e14, st14⟩ := getF X12 hx hZ hown (host := "") (Or.inl (hwd 162 rfl)) Via.refl e12 F13 (g := (mkF m 57 #[vR a0, .unset, vR nd] [(.ref a0)])) rfl rfl (y 21 rfl)
 refine qb st14 ?_
 have F16 := ((P_E_m_.wr W5).wr W12)
 have F17 := (F8.wr W12)
 have nq15 := ne_exa F16 F17 (by decide)
 have F18 := ((P_F_m__table.other W5 (Or.inl nq15)).other W12 (Or.inl nq15))
 obtain ⟨T19, X19, e19, st19⟩ := getF X14 hx hZ hown (host := "") (Or.inl (hwd 169 rfl)) Via.refl e14 F18 (g := (mkF m 60 #[vR a0, .unset, vR nd] [(.ref m_)])) rfl rfl (y 22 rfl)
 refine qb st19 ?_
 refine qb (fun _ k => XS.dup X19.here hx rfl (y 23 rfl) rfl rfl k) ?_
 refine qb (fun _ k => XS.astoreN X19.here hx rfl (y 24 rfl) rfl rfl (l' := #[vR a0, vR tt, vR nd]) rfl k) ?_
 show qG p e below _ (T19.setTop (mkF m 65 #[vR a0, vR tt, vR nd] [(.ref tt)]))
 refine qb (fun _ k => XS.ifnullNo X19.here hx rfl (y 25 rfl) rfl k) ?_
 show qG p e below _ (T19.setTop (mkF m 68 #[vR a0, vR tt, vR nd] []))
 have F32 := ((P_F_a0_index.other W5 (Or.inr (slot_ne (Or.inl (hwd 176 rfl)) (Or.inl (hwd 174 rfl)) (by decide) (t := .int) (t' := (.object "java/util/HashMap$Node")) (by decide) (by decide)))).other W12 (Or.inr (slot_ne (Or.inl (hwd 176 rfl)) (Or.inl (hwd 172 rfl)) (by decide) (t := .int) (t' := (.object "java/util/HashMap$Node")) (by decide) (by decide))))
 have F33 := ((P_F_a0_expectedModCount.other W5 (Or.inr (slot_ne (Or.inl (hwd 168 rfl)) (Or.inl (hwd 174 rfl)) (by decide) (t := .int) (t' := (.object "java/util/HashMap$Node")) (by decide) (by decide)))).other W12 (Or.inr (slot_ne (Or.inl (hwd 168 rfl)) (Or.inl (hwd 172 rfl)) (by decide) (t := .int) (t' := (.object "java/util/HashMap$Node")) (by decide) (by decide))))
 have F34 := ((P_F_m__modCount.other W5 (Or.inl nq15)).other W12 (Or.inl nq15))
 have F35 := ((P_E_tt.wr W5).wr W12)
 have nq36 := ne_exa F35 F17 (by decide)
 have F37 := ((P_V_tt.other W5 nq36).other W12 nq36)
 have F38 := ((P_Tb.keep (Keep.of_wr W5) (allS (qo P_E_a0 (by decide)) all0)).keep (Keep.of_wr W12) (allS (qo (P_E_a0.wr W5) (by decide)) all0))
 have F39 := (F7.wr W12)
 have F40 := (F9.other W12 (Or.inl nq6))
 have F41 := (Fw5.other W12 (Or.inr (slot_ne (Or.inl (hwd 174 rfl)) (Or.inl (hwd 172 rfl)) (by decide) (t := (.object "java/util/HashMap$Node")) (t' := (.object "java/util/HashMap$Node")) (by decide) (by decide))))
 have LP28 : ∀ (fu29 : Nat) (T20 : State) (L21 : List Loc) (h22 : Heap) (z30 : Int32), fu29 = 16 - (z30).toNatClampNeg → Stand p l e ({ frames := 0, cells := 0, slots := 0, locals := 0 } : Room) s m #[(.ref a0)] below meth c T20 L21 0 0 → T20.heap = h22 → Fr n0 L21 → Keep h0 h22 [a0] → n0 ≤ h22.size → Exa Z h22 a0 "java/util/HashMap$ValueIterator" → Fld Z h22 a0 cHI "next" "Ljava/util/HashMap$Node;" .null → Fld Z h22 a0 cHI "index" "I" (.int z30) → Fld Z h22 a0 cHI "this$0" "Ljava/util/HashMap;" (.ref m_) → Fld Z h22 a0 cHI "expectedModCount" "I" (.int Mc) → Exa Z h22 m_ "java/util/HashMap" → Fld Z h22 m_ cHM "modCount" "I" (.int Mc) → Fld Z h22 m_ cHM "table" "[Ljava/util/HashMap$Node;" (.ref tt) → Exa Z h22 tt "[Ljava/util/HashMap$Node;" → qA Z h22 tt k_tt (.object "java/util/HashMap$Node") (16 : Int32) (fun i => fn_tt i) → own_Tb Z h22 fn_tt → Exa Z h22 nd "java/util/HashMap$Node" → Fld Z h22 nd cND "next" "Ljava/util/HashMap$Node;" .null → Fld Z h22 a0 cHI "current" "Ljava/util/HashMap$Node;" (.ref nd) → ((¬ (z30 < (0 : Int32))) ∧ (z30).toNatClampNeg ≤ 16 ∧ Jj ≤ (z30).toNatClampNeg) → qG p e below (own_Fin s 0 0 (Qnn Z nd m_ tt k_tt fn_tt ix Mc Tw Sz Cq Jj a0 f_a0_current h0 n0)) (T20.setTop (mkF m 68 #[vR a0, vR tt, vR nd] [])) := by
  intro fu29
  induction fu29 using Nat.strongRecOn with
  | _ fu29 ihfu29 =>
   intro T20 L21 h22 z30 hfu57 X23 e24 N25 K26 Z27 F42 F43 F44 F45 F46 F47 F48 F49 F50 F51 F52 F53 F54 F55 hi56
   refine qb (fun _ k => XS.aloadN X23.here hx rfl (y 26 rfl) rfl rfl k) ?_
   obtain ⟨T58, X58, e58, st58⟩ := getF X23 hx hZ hown (host := "") (Or.inl (hwd 175 rfl)) Via.refl e24 F44 (g := (mkF m 69 #[vR a0, vR tt, vR nd] [(.ref a0)])) rfl rfl (y 27 rfl)
   refine qb st58 ?_
   refine qb (fun _ k => XS.aloadN X58.here hx rfl (y 28 rfl) rfl rfl k) ?_
   obtain ⟨cl59, Ar59, qq59, S59, M59, H59, G59⟩ := id F51
   refine qb (fun t k => X58.arraylength hx (by rw [e58]; exact Ar59.1) (State.isArrayOf_alike hZ.alike Ar59.2.1) (g := (mkF m 73 #[vR a0, vR tt, vR nd] [(.ref tt), (.int z30)])) rfl rfl (y 29 rfl) _ k) ?_
   rw [len_of S59 M59]
   show qG p e below _ (T58.setTop (mkF m 74 #[vR a0, vR tt, vR nd] [(.int 16), (.int z30)]))
   by_cases c60 : z30 < (16 : Int32)
   ·skip
    refine qb (fun _ k => XS.icmpNo X58.here hx rfl (y 30 rfl) rfl (tlt c60).2.1 k) ?_
    show qG p e below _ (T58.setTop (mkF m 77 #[vR a0, vR tt, vR nd] []))
    refine qb (fun _ k => XS.aloadN X58.here hx rfl (y 31 rfl) rfl rfl k) ?_
    refine qb (fun _ k => XS.aloadN X58.here hx rfl (y 32 rfl) rfl rfl k) ?_
    refine qb (fun _ k => XS.aloadN X58.here hx rfl (y 33 rfl) rfl rfl k) ?_
    refine qb (fun _ k => XS.dup X58.here hx rfl (y 34 rfl) rfl rfl k) ?_
    obtain ⟨T61, X61, e61, st61⟩ := getF X58 hx hZ hown (host := "") (Or.inl (hwd 175 rfl)) Via.refl e58 F44 (g := (mkF m 81 #[vR a0, vR tt, vR nd] [(.ref a0), (.ref a0), (.ref tt), (.ref a0)])) rfl rfl (y 35 rfl)
    refine qb st61 ?_
    refine qb (fun _ k => XS.dupX1 X61.here hx rfl (y 36 rfl) rfl rfl rfl k) ?_
    show qG p e below _ (T61.setTop (mkF m 85 #[vR a0, vR tt, vR nd] [(.int z30), (.ref a0), (.int z30), (.ref tt), (.ref a0)]))
    refine qb (fun _ k => XS.iconst X61.here hx rfl (y 37 rfl) k) ?_
    refine qb (fun _ k => XS.iadd X61.here hx rfl (y 38 rfl) rfl k) ?_
    obtain ⟨T62, h62, X62, e62, W62, st62⟩ := putF X61 hx hZ hown (host := "") (Or.inl (hwd 175 rfl)) Via.refl e61 F44 F42 (Or.inl (hwd 176 rfl)) (hwd 150 rfl) (ty := .int) (by decide) rfl rfl (g := (mkF m 87 #[vR a0, vR tt, vR nd] [(.int (z30 + (1 : Int32))), (.ref a0), (.int z30), (.ref tt), (.ref a0)])) rfl rfl (y 39 rfl)
    have Fw62 : Fld Z h62 a0 cHI "index" "I" (.int (z30 + (1 : Int32))) := F44.same W62
    have K62 : Keep h0 h62 [a0] := K26.wr W62 (Or.inl (List.mem_of_getElem? (i := 0) rfl))
    have Z62 := ql Z27 (Keep.of_wr W62).1
    have N62 := Fr.snoc X62 N25 g_a0
    refine qb st62 ?_
    show qG p e below _ (T62.setTop (mkF m 90 #[vR a0, vR tt, vR nd] [(.int z30), (.ref tt), (.ref a0)]))
    have F64 := (F50.wr W62)
    have F65 := (F42.wr W62)
    have nq63 := ne_exa F64 F65 (by decide)
    have F66 := (F51.other W62 nq63)
    refine qb (own_ldR X62 hx hZ e62 F66 (j := z30) (ob_nn_24 tt fn_tt ix Tw Sz Cq Jj z30 htw hix0 hixj hj16 hcq hsz hi56 c60) (g := (mkF m 90 #[vR a0, vR tt, vR nd] [(.int z30), (.ref tt), (.ref a0)])) rfl rfl (y 40 rfl)) ?_
    show qG p e below _ (T62.setTop (mkF m 91 #[vR a0, vR tt, vR nd] [(fn_tt (z30).toNatClampNeg), (.ref a0)]))
    have F68 := (F52.keep (Keep.of_wr W62) (allS (qo F42 (by decide)) all0))
    rcases F68 (z30).toNatClampNeg (ob_nn_25 tt fn_tt ix Tw Sz Cq Jj z30 htw hix0 hixj hj16 hcq hsz hi56 c60) with hv67 | ⟨nd67, hs67, ky67, bd67, xx67, hv67, N67⟩
    ·skip
     refine own_sub (f := fun v_ => T62.setTop (mkF m 91 #[vR a0, vR tt, vR nd] [v_, (.ref a0)])) hv67 ?_
     show qG p e below _ (T62.setTop (mkF m 91 #[vR a0, vR tt, vR nd] [.null, (.ref a0)]))
     refine qb (fun _ k => XS.dupX1 X62.here hx rfl (y 41 rfl) rfl rfl rfl k) ?_
     show qG p e below _ (T62.setTop (mkF m 92 #[vR a0, vR tt, vR nd] [.null, (.ref a0), .null]))
     have F69 := (F43.other W62 (Or.inr (slot_ne (Or.inl (hwd 172 rfl)) (Or.inl (hwd 176 rfl)) (by decide) (t := (.object "java/util/HashMap$Node")) (t' := .int) (by decide) (by decide))))
     obtain ⟨T70, h70, X70, e70, W70, st70⟩ := putF X62 hx hZ hown (host := "") (Or.inl (hwd 171 rfl)) Via.refl e62 F69 F65 (Or.inl (hwd 172 rfl)) (hwd 150 rfl) (ty := (.object "java/util/HashMap$Node")) (by decide) rfl rfl (g := (mkF m 92 #[vR a0, vR tt, vR nd] [.null, (.ref a0), .null])) rfl rfl (y 42 rfl)
     have Fw70 : Fld Z h70 a0 cHI "next" "Ljava/util/HashMap$Node;" .null := F69.same W70
     have K70 : Keep h0 h70 [a0] := K62.wr W70 (Or.inl (List.mem_of_getElem? (i := 0) rfl))
     have Z70 := ql Z62 (Keep.of_wr W70).1
     have N70 := Fr.snoc X70 N62 g_a0
     refine qb st70 ?_
     show qG p e below _ (T70.setTop (mkF m 95 #[vR a0, vR tt, vR nd] [.null]))
     refine qb (fun _ k => XS.ifnullYes X70.here hx rfl (pc0 := 95) (pc' := 68) rfl (y 43 rfl) rfl (by decide) (by decide) k) ?_
     show qG p e below _ (T70.setTop (mkF m 68 #[vR a0, vR tt, vR nd] []))
     have F71 := (F65.wr W70)
     have F72 := (Fw62.other W70 (Or.inr (slot_ne (Or.inl (hwd 176 rfl)) (Or.inl (hwd 172 rfl)) (by decide) (t := .int) (t' := (.object "java/util/HashMap$Node")) (by decide) (by decide))))
     have F73 := ((F45.other W62 (Or.inr (slot_ne (Or.inr (hwd 163 rfl)) (Or.inl (hwd 176 rfl)) (by decide) (t := (.object "java/util/HashMap")) (t' := .int) (by decide) (by decide)))).other W70 (Or.inr (slot_ne (Or.inr (hwd 163 rfl)) (Or.inl (hwd 172 rfl)) (by decide) (t := (.object "java/util/HashMap")) (t' := (.object "java/util/HashMap$Node")) (by decide) (by decide))))
     have F74 := ((F46.other W62 (Or.inr (slot_ne (Or.inl (hwd 168 rfl)) (Or.inl (hwd 176 rfl)) (by decide) (t := .int) (t' := .int) (by decide) (by decide)))).other W70 (Or.inr (slot_ne (Or.inl (hwd 168 rfl)) (Or.inl (hwd 172 rfl)) (by decide) (t := .int) (t' := (.object "java/util/HashMap$Node")) (by decide) (by decide))))
     have F75 := ((F47.wr W62).wr W70)
     have F76 := ((F48.other W62 (Or.inl nq15)).other W70 (Or.inl nq15))
     have F77 := ((F49.other W62 (Or.inl nq15)).other W70 (Or.inl nq15))
     have F78 := (F64.wr W70)
     have F79 := (F66.other W70 nq63)
     have F80 := (F68.keep (Keep.of_wr W70) (allS (qo (F42.wr W62) (by decide)) all0))
     have F81 := ((F53.wr W62).wr W70)
     have F82 := ((F54.other W62 (Or.inl nq6)).other W70 (Or.inl nq6))
     have F83 := ((F55.other W62 (Or.inr (slot_ne (Or.inl (hwd 174 rfl)) (Or.inl (hwd 176 rfl)) (by decide) (t := (.object "java/util/HashMap$Node")) (t' := .int) (by decide) (by decide)))).other W70 (Or.inr (slot_ne (Or.inl (hwd 174 rfl)) (Or.inl (hwd 172 rfl)) (by decide) (t := (.object "java/util/HashMap$Node")) (t' := (.object "java/util/HashMap$Node")) (by decide) (by decide))))
     exact ihfu29 _ (by rw [hfu57]; exact (ob_nn_26 tt fn_tt ix Tw Sz Cq Jj z30 htw hix0 hixj hj16 hcq hsz hi56 c60 hv67)) _ _ _ (z30 + (1 : Int32)) rfl X70 e70 N70 K70 Z70 F71 Fw70 F72 F73 F74 F75 F76 F77 F78 F79 F80 F81 F82 F83 (ob_nn_27 tt fn_tt ix Tw Sz Cq Jj z30 htw hix0 hixj hj16 hcq hsz hi56 c60 hv67)
    ·skip
     refine own_sub (f := fun v_ => T62.setTop (mkF m 91 #[vR a0, vR tt, vR nd] [v_, (.ref a0)])) hv67 ?_
     show qG p e below _ (T62.setTop (mkF m 91 #[vR a0, vR tt, vR nd] [(.ref nd67), (.ref a0)]))
     refine qb (fun _ k => XS.dupX1 X62.here hx rfl (y 41 rfl) rfl rfl rfl k) ?_
     show qG p e below _ (T62.setTop (mkF m 92 #[vR a0, vR tt, vR nd] [(.ref nd67), (.ref a0), (.ref nd67)]))
     have F84 := (F43.other W62 (Or.inr (slot_ne (Or.inl (hwd 172 rfl)) (Or.inl (hwd 176 rfl)) (by decide) (t := (.object "java/util/HashMap$Node")) (t' := .int) (by decide) (by decide))))
     obtain ⟨T85, h85, X85, e85, W85, st85⟩ := putF X62 hx hZ hown (host := "") (Or.inl (hwd 171 rfl)) Via.refl e62 F84 F65 (Or.inl (hwd 172 rfl)) (hwd 150 rfl) (ty := (.object "java/util/HashMap$Node")) (by decide) rfl rfl (g := (mkF m 92 #[vR a0, vR tt, vR nd] [(.ref nd67), (.ref a0), (.ref nd67)])) rfl rfl (y 42 rfl)
     have Fw85 : Fld Z h85 a0 cHI "next" "Ljava/util/HashMap$Node;" (.ref nd67) := F84.same W85
     have K85 : Keep h0 h85 [a0] := K62.wr W85 (Or.inl (List.mem_of_getElem? (i := 0) rfl))
     have Z85 := ql Z62 (Keep.of_wr W85).1
     have N85 := Fr.snoc X85 N62 g_a0
     refine qb st85 ?_
     show qG p e below _ (T85.setTop (mkF m 95 #[vR a0, vR tt, vR nd] [(.ref nd67)]))
     refine qb (fun _ k => XS.ifnullNo X85.here hx rfl (y 43 rfl) rfl k) ?_
     show qG p e below _ (T85.setTop (mkF m 98 #[vR a0, vR tt, vR nd] []))
     have F87 := (F65.wr W85)
     have F88 := (Fw62.other W85 (Or.inr (slot_ne (Or.inl (hwd 176 rfl)) (Or.inl (hwd 172 rfl)) (by decide) (t := .int) (t' := (.object "java/util/HashMap$Node")) (by decide) (by decide))))
     have F89 := ((F55.other W62 (Or.inr (slot_ne (Or.inl (hwd 174 rfl)) (Or.inl (hwd 176 rfl)) (by decide) (t := (.object "java/util/HashMap$Node")) (t' := .int) (by decide) (by decide)))).other W85 (Or.inr (slot_ne (Or.inl (hwd 174 rfl)) (Or.inl (hwd 172 rfl)) (by decide) (t := (.object "java/util/HashMap$Node")) (t' := (.object "java/util/HashMap$Node")) (by decide) (by decide))))
     have F90 := (F64.wr W85)
     have F91 := (F66.other W85 nq63)
     have F92 := (F68.keep (Keep.of_wr W85) (allS (qo (F42.wr W62) (by decide)) all0))
     have F93 := (N67.keep (Keep.of_wr W85) (allS (qo (F42.wr W62) (by decide)) all0))
     have Il86 : own_Il Z h85 a0 Tw Sz (Cq + 1) Jj := own_ilS F87 F89 htw F90 F91 F92 hv67 F88 Fw85 F93 (ob_nn_28 tt fn_tt ix Tw Sz Cq Jj z30 nd67 htw hix0 hixj hj16 hcq hsz hi56 c60 hv67) (ob_nn_29 tt fn_tt ix Tw Sz Cq Jj z30 nd67 htw hix0 hixj hj16 hcq hsz hi56 c60 hv67) (ob_nn_30 tt fn_tt ix Tw Sz Cq Jj z30 nd67 htw hix0 hixj hj16 hcq hsz hi56 c60 hv67) hcq hsz
     refine qb (fun _ k => XS.aloadN X85.here hx rfl (y 44 rfl) rfl rfl k) ?_
     have F94 := ((F45.other W62 (Or.inr (slot_ne (Or.inr (hwd 163 rfl)) (Or.inl (hwd 176 rfl)) (by decide) (t := (.object "java/util/HashMap")) (t' := .int) (by decide) (by decide)))).other W85 (Or.inr (slot_ne (Or.inr (hwd 163 rfl)) (Or.inl (hwd 172 rfl)) (by decide) (t := (.object "java/util/HashMap")) (t' := (.object "java/util/HashMap$Node")) (by decide) (by decide))))
     have F95 := ((F46.other W62 (Or.inr (slot_ne (Or.inl (hwd 168 rfl)) (Or.inl (hwd 176 rfl)) (by decide) (t := .int) (t' := .int) (by decide) (by decide)))).other W85 (Or.inr (slot_ne (Or.inl (hwd 168 rfl)) (Or.inl (hwd 172 rfl)) (by decide) (t := .int) (t' := (.object "java/util/HashMap$Node")) (by decide) (by decide))))
     exact own_retR X85 hx hrt (by decide) rfl (y 45 rfl) hlk e85 ⟨rfl, N85, K85, F87, F94, F95, Il86, (ob_nn_31 tt fn_tt ix Tw Sz Cq Jj z30 nd67 htw hix0 hixj hj16 hcq hsz hi56 c60 hv67)⟩ (by decide) (by decide)
   ·skip
    refine qb (fun _ k => XS.icmpYes X58.here hx rfl (pc0 := 74) (pc' := 98) rfl (y 30 rfl) rfl (flt c60).2.1 (by decide) (by decide) k) ?_
    show qG p e below _ (T58.setTop (mkF m 98 #[vR a0, vR tt, vR nd] []))
    have Il96 : own_Il Z h22 a0 Tw Sz (Cq + 1) Jj := own_ilN F42 F55 F44 F43 hj16
    refine qb (fun _ k => XS.aloadN X58.here hx rfl (y 44 rfl) rfl rfl k) ?_
    exact own_retR X58 hx hrt (by decide) rfl (y 45 rfl) hlk e58 ⟨rfl, N25, K26, F42, F45, F46, Il96, (ob_nn_32 tt fn_tt ix Tw Sz Cq Jj z30 htw hix0 hixj hj16 hcq hsz hi56 c60)⟩ (by decide) (by decide)
 exact LP28 _ _ _ _ ix rfl X19 e19 N12 K12 Z12 F17 Fw12 F32 F13 F33 F16 F34 F18 F35 F37 F38 F39 F40 F41 (ob_nn_33 tt fn_tt ix Tw Sz Cq Jj htw hix0 hixj hj16 hcq hsz)
theorem pd_386 : parseMethodDescriptor "()Ljava/util/HashMap$Node;" = some ⟨[], some (.object "java/util/HashMap$Node")⟩ := by decide +kernel
theorem d54 : own_ds jdk_2569_method_2_code [(0, .aload_n 0, 1), (1, .invokevirtual 7, 3), (4, .getfield 13, 3), (7, .areturn, 1)] = true := by decide +kernel
theorem ef_nxt (m : MethodId) (a0 : Addr) : entryFrame m #[(.ref a0)] 1 = mkF m 0 #[vR a0] [] := rfl
def Qnxt (Z : State) (nd m_ tt : Addr) (k_tt : ClassId) (fn_tt : Nat → Value) (ix Mc : Int32) (Tw : Value) (Sz : Int32) (Cq : Int) (Jj : Nat) (bd a0 : Addr) (f_a0_current : Value) (h0 : Heap) (n0 : Nat) (v : Option Value) (h : Heap) (L : List Loc) : Prop := v = some (.ref bd) ∧ Fr n0 L ∧ Keep h0 h [a0] ∧ Exa Z h a0 "java/util/HashMap$ValueIterator" ∧ Fld Z h a0 cHI "this$0" "Ljava/util/HashMap;" (.ref m_) ∧ Fld Z h a0 cHI "expectedModCount" "I" (.int Mc) ∧ own_Il Z h a0 Tw Sz (Cq + 1) Jj
theorem rmnxt (l : Launch) (Z : State) (A0 : Array Value) (hw : ∀ d ∈ tables_1, d.before A0 Z = true) (ws : List Jvm.Cond) (nd m_ tt : Addr) (k_tt : ClassId) (fn_tt : Nat → Value) (ix Mc : Int32) (Tw : Value) (Sz : Int32) (Cq : Int) (Jj : Nat) (bd a0 : Addr) (f_a0_current : Value) (h0 : Heap) (n0 : Nat) (Z0 : n0 ≤ h0.size) (P_E_a0 : Exa Z h0 a0 "java/util/HashMap$ValueIterator") (P_F_a0_next : Fld Z h0 a0 cHI "next" "Ljava/util/HashMap$Node;" (.ref nd)) (P_F_a0_index : Fld Z h0 a0 cHI "index" "I" (.int ix)) (P_F_a0_this_0 : Fld Z h0 a0 cHI "this$0" "Ljava/util/HashMap;" (.ref m_)) (P_F_a0_expectedModCount : Fld Z h0 a0 cHI "expectedModCount" "I" (.int Mc)) (P_E_m_ : Exa Z h0 m_ "java/util/HashMap") (P_F_m__modCount : Fld Z h0 m_ cHM "modCount" "I" (.int Mc)) (P_F_m__table : Fld Z h0 m_ cHM "table" "[Ljava/util/HashMap$Node;" (.ref tt)) (P_E_tt : Exa Z h0 tt "[Ljava/util/HashMap$Node;") (P_V_tt : qA Z h0 tt k_tt (.object "java/util/HashMap$Node") (16 : Int32) (fun i => fn_tt i)) (P_Tb : own_Tb Z h0 fn_tt) (P_E_nd : Exa Z h0 nd "java/util/HashMap$Node") (P_F_nd_next : Fld Z h0 nd cND "next" "Ljava/util/HashMap$Node;" .null) (htw : Tw = .ref tt) (hix0 : ¬ (ix < (0 : Int32))) (hixj : (ix).toNatClampNeg = Jj) (hj16 : Jj ≤ 16) (hcq : Cq + 1 ≤ (own_ct fn_tt Jj : Int)) (hsz : (own_ct fn_tt 16 : Int) = Sz.toInt) (P_F_nd_value : Fld Z h0 nd cND "value" "Ljava/lang/Object;" (.ref bd)) (P_F_a0_current : Fld Z h0 a0 cHI "current" "Ljava/util/HashMap$Node;" f_a0_current) (g_a0 : n0 ≤ a0) :
  qM l Z (⟨"java/util/HashMap$ValueIterator", "next", "()Ljava/lang/Object;"⟩ : MethodName) jdk_2569_method_2_code 1 (some (.object "java/lang/Object")) ws ({ frames := 1, cells := 0, slots := 0, locals := 14 } : Room) #[(.ref a0)] h0 (Qnxt Z nd m_ tt k_tt fn_tt ix Mc Tw Sz Cq Jj bd a0 f_a0_current h0 n0) 0 0 := qe d54 (plainFor_of_name pn_vii) (fun m => ef_nxt m a0) fun p e s m below meth c s₁ hx Y hml hlk hown hnm X0 e0 hZ hrt => by
 have hwd := qw hw
 have N0 := Fr.nil n0
 show qG p e below _ (s₁.setTop (mkF m 0 #[vR a0] []))
 refine qb (fun _ k => XS.aloadN X0.here hx rfl (Y 0 rfl) rfl rfl k) ?_
 obtain ⟨cq1, kq1, qq1a, qq1b, qq1c⟩ := isOf hZ e0 P_E_a0
 obtain ⟨_, _, ⟨T1, L1, k1, n1⟩, -, X1, ⟨Lc1, hQ1, l1, y1, z1⟩, st1⟩ := X0.virtualBackUp hx (x := (⟨"java/util/HashMap$ValueIterator", "nextNode", "()Ljava/util/HashMap$Node;"⟩ : MethodName)) (y := (⟨"java/util/HashMap$HashIterator", "nextNode", "()Ljava/util/HashMap$Node;"⟩ : MethodName)) (owner := "java/util/HashMap$HashIterator") hown (mvT hZ (hwd 386 rfl)) (mvT hZ (hwd 387 rfl)) (mvT hZ (hwd 388 rfl)) (by decide) (mvT hZ (hwd 390 rfl)) (mvT hZ (hwd 389 rfl)) (backOf (W := 0) (rmnn l Z A0 hw [] nd m_ tt k_tt fn_tt ix Mc Tw Sz Cq Jj a0 f_a0_current h0 n0 Z0 P_E_a0 P_F_a0_next P_F_a0_index P_F_a0_this_0 P_F_a0_expectedModCount P_E_m_ P_F_m__modCount P_F_m__table P_E_tt P_V_tt P_Tb P_E_nd P_F_nd_next htw hix0 hixj hj16 hcq hsz P_F_a0_current g_a0) hZ (hwd 391 rfl) (hwd 160 rfl) (by decide) (by decide)) qq1a qq1c (g := (mkF m 1 #[vR a0] [(.ref a0)])) rfl (by rw [hml]; rfl) (Steps.refl _) (argsL := []) (rest := []) (lenOf pd_386 rfl) rfl (by show 2 * 0 + _ ≤ _; exact Nat.le_of_eq rfl) (Y 1 rfl) (fun _ _ => ⟨rfl, e0, (by decide : 0 + 0 ≤ _), (by decide : 0 + 0 ≤ _)⟩)
 dsimp only [Pt.U, Pt.locs, Pt.cells, Pt.slots] at X1 l1 y1 z1 st1 hQ1
 subst l1 y1 z1
 obtain ⟨rfl, Nq1, Kq1, F2, F3, F4, F5, hp6⟩ := hQ1
 have N1 := Fr.app N0 Nq1
 have K1 : Keep h0 T1.heap [a0] := (Keep.refl h0 [a0]).trans Kq1 ((allS (Or.inl (List.mem_of_getElem? (i := 0) rfl)) all0))
 have Z1 := ql Z0 Kq1.1
 refine qb (fun _ k => st1.trans k) ?_
 show qG p e below _ (T1.setTop (mkF m 4 #[vR a0] [(.ref nd)]))
 have F8 := (P_E_nd.keep Kq1)
 have nq7 := ne_exa F8 F2 (by decide)
 have F9 := (P_F_nd_value.keep Kq1 (ninS nq7 nin0))
 obtain ⟨T10, X10, e10, st10⟩ := getF X1 hx hZ hown (host := "") (Or.inl (hwd 393 rfl)) Via.refl rfl F9 (g := (mkF m 4 #[vR a0] [(.ref nd)])) rfl rfl (Y 2 rfl)
 refine qb st10 ?_
 exact own_retR X10 hx hrt (by decide) rfl (Y 3 rfl) hlk e10 ⟨rfl, N1, K1, F2, F3, F4, F5⟩ (by decide) (by decide)
theorem d58 : own_ds jdk_29_method_69_code [(0, .iload_n 0, 1), (1, .iload_n 1, 1), (2, .if_icmp .gt 7, 3), (5, .iload_n 0, 1), (6, .goto 4, 3), (9, .iload_n 1, 1), (10, .ireturn, 1)] = true := by decide +kernel
theorem ef_mn (m : MethodId) (p0 p1 : Int32) : entryFrame m #[(.int p0), (.int p1)] 2 = mkF m 0 #[vI p0, vI p1] [] := rfl
theorem ob_mn_34 (p0 p1 : Int32) (c1 : p1 < p0) : (p1).toInt ≤ p0.toInt ∧ p1.toInt ≤ p1.toInt ∧ (p1.toInt = p0.toInt ∨ p1.toInt = p1.toInt) := by
  refine ⟨?_, ?_, ?_⟩ <;> first | exact Or.inl rfl | exact Or.inr rfl | exact Int.le_refl _ | (rw [Int32.lt_iff_toInt_lt] at *; omega)
theorem ob_mn_35 (p0 p1 : Int32) (c1 : ¬ (p1 < p0)) : (p0).toInt ≤ p0.toInt ∧ p0.toInt ≤ p1.toInt ∧ (p0.toInt = p0.toInt ∨ p0.toInt = p1.toInt) := by
  refine ⟨?_, ?_, ?_⟩ <;> first | exact Or.inl rfl | exact Or.inr rfl | exact Int.le_refl _ | (rw [Int32.lt_iff_toInt_lt] at *; omega)
def Qmn (Z : State) (p0 p1 : Int32) (h0 : Heap) (n0 : Nat) (v : Option Value) (h : Heap) (L : List Loc) : Prop := ∃ (zz : Int32), v = some (.int zz) ∧ Fr n0 L ∧ h = h0 ∧ ((zz).toInt ≤ p0.toInt ∧ zz.toInt ≤ p1.toInt ∧ (zz.toInt = p0.toInt ∨ zz.toInt = p1.toInt))
theorem rmmn (l : Launch) (Z : State) (A0 : Array Value) (hw : ∀ d ∈ tables_1, d.before A0 Z = true) (ws : List Jvm.Cond) (p0 p1 : Int32) (h0 : Heap) (n0 : Nat) (Z0 : n0 ≤ h0.size) :
  qM l Z (⟨"java/lang/Math", "min", "(II)I"⟩ : MethodName) jdk_29_method_69_code 2 (some .int) ws ({ frames := 0, cells := 0, slots := 0, locals := 0 } : Room) #[(.int p0), (.int p1)] h0 (Qmn Z p0 p1 h0 n0) 0 0 := qe d58 (Jvm.Free.JP.mathPlain rfl (by decide +kernel)) (fun m => ef_mn m p0 p1) fun p e s m below meth c s₁ hx y hml hlk hown hnm X0 e0 hZ hrt => by
 have hwd := qw hw
 have N0 := Fr.nil n0
 show qG p e below _ (s₁.setTop (mkF m 0 #[vI p0, vI p1] []))
 refine qb (fun _ k => XS.iloadN X0.here hx rfl (y 0 rfl) rfl k) ?_
 refine qb (fun _ k => XS.iloadN X0.here hx rfl (y 1 rfl) rfl k) ?_
 by_cases c1 : p1 < p0
 ·skip
  refine qb (fun _ k => XS.icmpYes X0.here hx rfl (pc0 := 2) (pc' := 9) rfl (y 2 rfl) rfl (tlt c1).2.2.1 (by decide) (by decide) k) ?_
  show qG p e below _ (s₁.setTop (mkF m 9 #[vI p0, vI p1] []))
  refine qb (fun _ k => XS.iloadN X0.here hx rfl (y 5 rfl) rfl k) ?_
  exact own_retI X0 hx hrt (y 6 rfl) hlk e0 ⟨_, rfl, N0, rfl, (ob_mn_34 p0 p1 c1)⟩ (by decide) (by decide)
 ·skip
  refine qb (fun _ k => XS.icmpNo X0.here hx rfl (y 2 rfl) rfl (flt c1).2.2.1 k) ?_
  show qG p e below _ (s₁.setTop (mkF m 5 #[vI p0, vI p1] []))
  refine qb (fun _ k => XS.iloadN X0.here hx rfl (y 3 rfl) rfl k) ?_
  refine qb (fun _ k => XS.goto X0.here hx rfl (pc0 := 6) (pc' := 10) rfl (y 4 rfl) (by decide) (by decide) k) ?_
  show qG p e below _ (s₁.setTop (mkF m 10 #[vI p0, vI p1] [(.int p0)]))
  exact own_retI X0 hx hrt (y 6 rfl) hlk e0 ⟨_, rfl, N0, rfl, (ob_mn_35 p0 p1 c1)⟩ (by decide) (by decide)
theorem d23 : own_ds jdk_65_method_123_code [(0, .iload_n 1, 1), (1, .aload_n 0, 1), (2, .arraylength, 1), (3, .if_icmp .ne 11, 3), (6, .aload_n 0, 1), (7, .invokevirtual 316, 3), (10, .checkcast 317, 3), (13, .areturn, 1), (14, .iload_n 1, 1), (15, .newarray .int, 2), (17, .astore_n 2, 1), (18, .aload_n 0, 1), (19, .iconst 0, 1), (20, .aload_n 2, 1), (21, .iconst 0, 1), (22, .aload_n 0, 1), (23, .arraylength, 1), (24, .iload_n 1, 1), (25, .invokestatic 304, 3), (28, .invokestatic 150, 3), (31, .aload_n 2, 1), (32, .areturn, 1)] = true := by decide +kernel
theorem pn_cpo : plainName "java/util/Arrays" = true := by first | (simp [plainName, overriddenIn]; done) | decide +kernel
theorem ef_cpo (m : MethodId) (a0 : Addr) (p1 : Int32) : entryFrame m #[(.ref a0), (.int p1)] 3 = mkF m 0 #[vR a0, vI p1, .unset] [] := rfl
theorem ob_cpo_36 (n_a0 p1 : Int32) (hcc : (n_a0).toNatClampNeg ≤ 5) (hcn : ¬ (n_a0 < (0 : Int32))) (hc0 : ¬ p1 < 0) (hc1 : (p1).toNatClampNeg ≤ (n_a0).toNatClampNeg) (c2 : p1 = n_a0) : n_a0 = p1 := by
  first | rfl | exact (by assumption : p1 = n_a0).symm
theorem ob_cpo_37 (n_a0 p1 : Int32) (hcc : (n_a0).toNatClampNeg ≤ 5) (hcn : ¬ (n_a0 < (0 : Int32))) (hc0 : ¬ p1 < 0) (hc1 : (p1).toNatClampNeg ≤ (n_a0).toNatClampNeg) (c2 : ¬ (p1 = n_a0)) : ¬ p1 < 0 := by
  assumption
theorem ob_cpo_38 (n_a0 p1 : Int32) (hcc : (n_a0).toNatClampNeg ≤ 5) (hcn : ¬ (n_a0 < (0 : Int32))) (hc0 : ¬ p1 < 0) (hc1 : (p1).toNatClampNeg ≤ (n_a0).toNatClampNeg) (c2 : ¬ (p1 = n_a0)) : (p1).toNatClampNeg ≤ 5 := by
  simp only [Int32.lt_iff_toInt_lt, Int32.le_iff_toInt_le, Int32.toNatClampNeg, own_l0, own_l1, own_l4, own_l5, own_l10, own_l16, own_l44] at *
  omega
theorem ob_cpo_39 (n_a0 p1 o9 : Int32) (hcc : (n_a0).toNatClampNeg ≤ 5) (hcn : ¬ (n_a0 < (0 : Int32))) (hc0 : ¬ p1 < 0) (hc1 : (p1).toNatClampNeg ≤ (n_a0).toNatClampNeg) (c2 : ¬ (p1 = n_a0)) (hp10 : (o9).toInt ≤ n_a0.toInt ∧ o9.toInt ≤ p1.toInt ∧ (o9.toInt = n_a0.toInt ∨ o9.toInt = p1.toInt)) : ¬ o9 < 0 := by
  simp only [Int32.lt_iff_toInt_lt, Int32.toNatClampNeg, own_l0] at *
  omega
theorem ob_cpo_40 (n_a0 p1 o9 : Int32) (hcc : (n_a0).toNatClampNeg ≤ 5) (hcn : ¬ (n_a0 < (0 : Int32))) (hc0 : ¬ p1 < 0) (hc1 : (p1).toNatClampNeg ≤ (n_a0).toNatClampNeg) (c2 : ¬ (p1 = n_a0)) (hp10 : (o9).toInt ≤ n_a0.toInt ∧ o9.toInt ≤ p1.toInt ∧ (o9.toInt = n_a0.toInt ∨ o9.toInt = p1.toInt)) : ((0 : Int32)).toNatClampNeg + (o9).toNatClampNeg ≤ (n_a0).toNatClampNeg := by
  simp only [Int32.lt_iff_toInt_lt, Int32.toNatClampNeg, own_l0] at *
  omega
theorem ob_cpo_41 (n_a0 p1 o9 : Int32) (hcc : (n_a0).toNatClampNeg ≤ 5) (hcn : ¬ (n_a0 < (0 : Int32))) (hc0 : ¬ p1 < 0) (hc1 : (p1).toNatClampNeg ≤ (n_a0).toNatClampNeg) (c2 : ¬ (p1 = n_a0)) (hp10 : (o9).toInt ≤ n_a0.toInt ∧ o9.toInt ≤ p1.toInt ∧ (o9.toInt = n_a0.toInt ∨ o9.toInt = p1.toInt)) : ((0 : Int32)).toNatClampNeg + (o9).toNatClampNeg ≤ (p1).toNatClampNeg := by
  simp only [Int32.lt_iff_toInt_lt, Int32.toNatClampNeg, own_l0] at *
  omega
theorem ob_cpo_42 (n_a0 p1 o9 : Int32) (hcc : (n_a0).toNatClampNeg ≤ 5) (hcn : ¬ (n_a0 < (0 : Int32))) (hc0 : ¬ p1 < 0) (hc1 : (p1).toNatClampNeg ≤ (n_a0).toNatClampNeg) (c2 : ¬ (p1 = n_a0)) (hp10 : (o9).toInt ≤ n_a0.toInt ∧ o9.toInt ≤ p1.toInt ∧ (o9.toInt = n_a0.toInt ∨ o9.toInt = p1.toInt)) : p1 = p1 := by
  first | rfl | exact (by assumption : p1 = n_a0).symm
def Qcpo (Z : State) (k_a0 : ClassId) (n_a0 : Int32) (fn_a0 : Nat → Int32) (a0 : Addr) (p1 : Int32) (h0 : Heap) (n0 : Nat) (v : Option Value) (h : Heap) (L : List Loc) : Prop := ∃ (rr : Addr) (kk5001 : ClassId) (nn5002 : Int32) (gg5003 : Nat → Int32), v = some (.ref rr) ∧ Fr n0 L ∧ Keep h0 h [] ∧ (n0 ≤ rr) ∧ (h0.size ≤ rr) ∧ qA Z h rr kk5001 .int nn5002 (fun i => .int (gg5003 i)) ∧ Exa Z h rr "[I" ∧ (nn5002 = p1)
theorem rmcpo (l : Launch) (Z : State) (A0 : Array Value) (hw : ∀ d ∈ tables_1, d.before A0 Z = true) (ws : List Jvm.Cond) (k_a0 : ClassId) (n_a0 : Int32) (fn_a0 : Nat → Int32) (a0 : Addr) (p1 : Int32) (h0 : Heap) (n0 : Nat) (Z0 : n0 ≤ h0.size) (P_E_a0 : Exa Z h0 a0 "[I") (P_V_a0 : qA Z h0 a0 k_a0 .int n_a0 (fun i => .int (fn_a0 i))) (hcc : (n_a0).toNatClampNeg ≤ 5) (hcn : ¬ (n_a0 < (0 : Int32))) (hc0 : ¬ p1 < 0) (hc1 : (p1).toNatClampNeg ≤ (n_a0).toNatClampNeg) :
  qM l Z (⟨"java/util/Arrays", "copyOf", "([II)[I"⟩ : MethodName) jdk_65_method_123_code 3 (some (.array .int)) ws ({ frames := 1, cells := 1, slots := 5, locals := 30 } : Room) #[(.ref a0), (.int p1)] h0 (Qcpo Z k_a0 n_a0 fn_a0 a0 p1 h0 n0) 1 5 := qe d23 (plainFor_of_name pn_cpo) (fun m => ef_cpo m a0 p1) fun p e s m below meth c s₁ hx y hml hlk hown hnm X0 e0 hZ hrt => by
 have hwd := qw hw
 have N0 := Fr.nil n0
 show qG p e below _ (s₁.setTop (mkF m 0 #[vR a0, vI p1, .unset] []))
 refine qb (fun _ k => XS.iloadN X0.here hx rfl (y 0 rfl) rfl k) ?_
 refine qb (fun _ k => XS.aloadN X0.here hx rfl (y 1 rfl) rfl rfl k) ?_
 obtain ⟨cl1, Ar1, qq1, S1, M1, H1, G1⟩ := id P_V_a0
 refine qb (fun t k => X0.arraylength hx (by rw [e0]; exact Ar1.1) (State.isArrayOf_alike hZ.alike Ar1.2.1) (g := (mkF m 2 #[vR a0, vI p1, .unset] [(.ref a0), (.int p1)])) rfl rfl (y 2 rfl) _ k) ?_
 rw [len_of S1 M1]
 show qG p e below _ (s₁.setTop (mkF m 3 #[vR a0, vI p1, .unset] [(.int n_a0), (.int p1)]))
 by_cases c2 : p1 = n_a0
 ·skip
  refine qb (fun _ k => XS.icmpNo X0.here hx rfl (y 3 rfl) rfl (teq c2).2 k) ?_
  show qG p e below _ (s₁.setTop (mkF m 6 #[vR a0, vI p1, .unset] []))
  refine qb (fun _ k => XS.aloadN X0.here hx rfl (y 4 rfl) rfl rfl k) ?_
  obtain ⟨T3, h3, X3, e3, E3, V3, Ax3, st3⟩ := own_clone X0 hx hZ hown (hwd 190 rfl) (hwd 191 rfl) (hwd 195 rfl) (hwd 193 rfl) (hwd 194 rfl) (hwd 196 rfl) e0 P_V_a0 P_E_a0 (g := (mkF m 7 #[vR a0, vI p1, .unset] [(.ref a0)])) rfl (by rw [hml]; rfl) rfl (y 5 rfl) (by decide) (W := 0) (by show 2 * 0 + _ ≤ _; exact Nat.le_of_eq rfl) (by decide) (cap := 5) hcc (by decide) (by decide)
  obtain ⟨b3, g3⟩ : ∃ z, z = h0.size := ⟨_, rfl⟩
  have ge_b3 : n0 ≤ b3 := ql Z0 (Nat.le_of_eq g3.symm)
  have sz_b3 := ql (Keep.refl h0 []).1 (Nat.le_of_eq g3.symm)
  have K3 : Keep h0 h3 [] := (Keep.refl h0 []).ext E3
  have Z3 := ql Z0 E3.1
  rw [← g3] at V3 Ax3 st3
  refine qb st3 ?_
  show qG p e below _ (T3.setTop (mkF m 10 #[vR a0, vI p1, .unset] [(.ref b3)]))
  obtain ⟨T4, X4, e4, st4⟩ := castY X3 hx hZ hown (hwd 197 rfl) e3 (Ins.self Ax3) (g := (mkF m 10 #[vR a0, vI p1, .unset] [(.ref b3)])) rfl rfl (y 6 rfl)
  refine qb st4 ?_
  show qG p e below _ (T4.setTop (mkF m 13 #[vR a0, vI p1, .unset] [(.ref b3)]))
  exact own_retR X4 hx hrt (by decide) rfl (y 7 rfl) hlk e4 ⟨b3, k_a0, n_a0, fn_a0, rfl, N0, K3, ge_b3, sz_b3, V3, Ax3, (ob_cpo_36 n_a0 p1 hcc hcn hc0 hc1 c2)⟩ (by decide) (by decide)
 ·skip
  refine qb (fun _ k => XS.icmpYes X0.here hx rfl (pc0 := 3) (pc' := 14) rfl (y 3 rfl) rfl (feq c2).2 (by decide) (by decide) k) ?_
  show qG p e below _ (s₁.setTop (mkF m 14 #[vR a0, vI p1, .unset] []))
  refine qb (fun _ k => XS.iloadN X0.here hx rfl (y 8 rfl) rfl k) ?_
  obtain ⟨T5, h5, k5, X5, e5, E5, A5, Ax5, st5⟩ := newPE X0 hx hZ (hwd 104 rfl) e0 (g := (mkF m 15 #[vR a0, vI p1, .unset] [(.int p1)])) rfl (y 9 rfl) rfl (ob_cpo_37 n_a0 p1 hcc hcn hc0 hc1 c2) (cap := 5) (ob_cpo_38 n_a0 p1 hcc hcn hc0 hc1 c2) (by decide) (by decide) (by decide) (ad := "[I") (by decide)
  obtain ⟨b5, g5⟩ : ∃ z, z = h0.size := ⟨_, rfl⟩
  have ge_b5 : n0 ≤ b5 := ql Z0 (Nat.le_of_eq g5.symm)
  have sz_b5 := ql (Keep.refl h0 []).1 (Nat.le_of_eq g5.symm)
  have K5 : Keep h0 h5 [] := (Keep.refl h0 []).ext E5
  have Z5 := ql Z0 E5.1
  rw [← g5] at A5 Ax5 st5
  have V5 : qA Z h5 b5 k5 .int p1 (fun i => .int ((fun _ => (0 : Int32)) i)) := own_arfNew A5 (ob_cpo_37 n_a0 p1 hcc hcn hc0 hc1 c2)
  refine qb st5 ?_
  show qG p e below _ (T5.setTop (mkF m 17 #[vR a0, vI p1, .unset] [(.ref b5)]))
  refine qb (fun _ k => XS.astoreN X5.here hx rfl (y 10 rfl) rfl rfl (l' := #[vR a0, vI p1, vR b5]) rfl k) ?_
  show qG p e below _ (T5.setTop (mkF m 18 #[vR a0, vI p1, vR b5] []))
  refine qb (fun _ k => XS.aloadN X5.here hx rfl (y 11 rfl) rfl rfl k) ?_
  refine qb (fun _ k => XS.iconst X5.here hx rfl (y 12 rfl) k) ?_
  refine qb (fun _ k => XS.aloadN X5.here hx rfl (y 13 rfl) rfl rfl k) ?_
  refine qb (fun _ k => XS.iconst X5.here hx rfl (y 14 rfl) k) ?_
  refine qb (fun _ k => XS.aloadN X5.here hx rfl (y 15 rfl) rfl rfl k) ?_
  have F6 := (P_V_a0.ext E5)
  obtain ⟨cl7, Ar7, qq7, S7, M7, H7, G7⟩ := id F6
  refine qb (fun t k => X5.arraylength hx (by rw [e5]; exact Ar7.1) (State.isArrayOf_alike hZ.alike Ar7.2.1) (g := (mkF m 23 #[vR a0, vI p1, vR b5] [(.ref a0), (.int 0), (.ref b5), (.int 0), (.ref a0)])) rfl rfl (y 16 rfl) _ k) ?_
  rw [len_of S7 M7]
  show qG p e below _ (T5.setTop (mkF m 24 #[vR a0, vI p1, vR b5] [(.int n_a0), (.int 0), (.ref b5), (.int 0), (.ref a0)]))
  refine qb (fun _ k => XS.iloadN X5.here hx rfl (y 17 rfl) rfl k) ?_
  obtain ⟨_, T8, Lc8, X8, hQ8, st8⟩ := own_cS X5 hx hZ hown hml (rmmn l Z A0 hw [] n_a0 p1 h5 n0 Z5 ) (hwd 409 rfl) (hwd 410 rfl) (hwd 243 rfl) (hwd 411 rfl) (by decide) pd_241 e5 (g := (mkF m 25 #[vR a0, vI p1, vR b5] [(.int p1), (.int n_a0), (.int 0), (.ref b5), (.int 0), (.ref a0)])) (rest := [(.int 0), (.ref b5), (.int 0), (.ref a0)]) rfl rfl rfl rfl (y 18 rfl) rfl
  obtain ⟨o9, rfl, Nq8, eq8, hp10⟩ := hQ8
  have N8 := Fr.app N0 Nq8
  refine qb st8 ?_
  show qG p e below _ (T8.setTop (mkF m 28 #[vR a0, vI p1, vR b5] [(.int o9), (.int 0), (.ref b5), (.int 0), (.ref a0)]))
  obtain ⟨T11, h11, L11, X11, e11, N11, Kq11, V11, st11⟩ := own_cpA X8 hx hZ hown (hwd 412 rfl) (hwd 415 rfl) (hwd 413 rfl) (hwd 414 rfl) eq8 F6 V5 (by decide) (by decide) (by decide) (ob_cpo_39 n_a0 p1 o9 hcc hcn hc0 hc1 c2 hp10) (ob_cpo_40 n_a0 p1 o9 hcc hcn hc0 hc1 c2 hp10) (ob_cpo_41 n_a0 p1 o9 hcc hcn hc0 hc1 c2 hp10) N8 ge_b5 (g := (mkF m 28 #[vR a0, vI p1, vR b5] [(.int o9), (.int 0), (.ref b5), (.int 0), (.ref a0)])) rfl (by rw [hml]; rfl) rfl (y 19 rfl) (by decide) (W := 0) (by show 2 * 0 + _ ≤ _; exact Nat.le_of_eq rfl) (by decide)
  have V11' : qA Z h11 b5 k5 .int p1 (fun i => .int ((own_cp fn_a0 0 (fun _ => (0 : Int32)) 0 (o9).toNatClampNeg) i)) := by rw [← own_cpI]; exact V11
  have K11 : Keep h0 h11 [] := K5.trans Kq11 ((allS (Or.inr sz_b5) all0))
  have Z11 := ql Z5 Kq11.1
  refine qb st11 ?_
  show qG p e below _ (T11.setTop (mkF m 31 #[vR a0, vI p1, vR b5] []))
  refine qb (fun _ k => XS.aloadN X11.here hx rfl (y 20 rfl) rfl rfl k) ?_
  have F12 := (Ax5.keep Kq11)
  exact own_retR X11 hx hrt (by decide) rfl (y 21 rfl) hlk e11 ⟨b5, k5, p1, (own_cp fn_a0 0 (fun _ => (0 : Int32)) 0 (o9).toNatClampNeg), rfl, N11, K11, ge_b5, sz_b5, V11', F12, (ob_cpo_42 n_a0 p1 o9 hcc hcn hc0 hc1 c2 hp10)⟩ (by decide) (by decide)
theorem d27 : own_ds jdk_2529_method_6_code [(0, .iload_n 1, 1), (1, .istore 4, 2), (3, .iinc 4 1, 3), (6, .iload 4, 2), (8, .iload_n 2, 1), (9, .if_icmp .ge 58, 3), (12, .aload_n 0, 1), (13, .iload 4, 2), (15, .dup, 1), (16, .istore_n 3, 1), (17, .iaload, 1), (18, .istore 5, 2), (20, .iload 5, 2), (22, .aload_n 0, 1), (23, .iload_n 3, 1), (24, .iconst 1, 1), (25, .isub, 1), (26, .iaload, 1), (27, .if_icmp .ge 37, 3), (30, .iinc 3 (-1), 3), (33, .iload_n 3, 1), (34, .iload_n 1, 1), (35, .if_icmp .lt 22, 3), (38, .iload 5, 2), (40, .aload_n 0, 1), (41, .iload_n 3, 1), (42, .iaload, 1), (43, .if_icmp .ge 14, 3), (46, .aload_n 0, 1), (47, .iload_n 3, 1), (48, .iconst 1, 1), (49, .iadd, 1), (50, .aload_n 0, 1), (51, .iload_n 3, 1), (52, .iaload, 1), (53, .iastore, 1), (54, .goto (-24), 3), (57, .aload_n 0, 1), (58, .iload_n 3, 1), (59, .iconst 1, 1), (60, .iadd, 1), (61, .iload 5, 2), (63, .iastore, 1), (64, .goto (-61), 3), (67, .return_, 1)] = true := by decide +kernel
theorem pn_ins : plainName "java/util/DualPivotQuicksort" = true := by first | (simp [plainName, overriddenIn]; done) | decide +kernel
theorem ef_ins (m : MethodId) (a0 : Addr) (p2 : Int32) : entryFrame m #[(.ref a0), (.int 0), (.int p2)] 6 = mkF m 0 #[vR a0, vI 0, vI p2, .unset, .unset, .unset] [] := by first | (simp [entryFrame, mkF, argsToLocals, Value.category]; done) | rfl
theorem ob_ins_43 (p2 z11 : Int32) (hPq : (p2).toNatClampNeg ≤ 5) (hi18 : (¬ (z11 < (0 : Int32))) ∧ (z11).toNatClampNeg ≤ 5) (c20 : (z11 + (1 : Int32)) < p2) : (¬ (z11 + (1 : Int32)) < 0) ∧ (z11 + (1 : Int32)) < p2 := by
  exact own_ib1 hi18 c20
theorem ob_ins_44 (p2 z11 : Int32) (hPq : (p2).toNatClampNeg ≤ 5) (hi18 : (¬ (z11 < (0 : Int32))) ∧ (z11).toNatClampNeg ≤ 5) (c20 : (z11 + (1 : Int32)) < p2) : (¬ ((z11 + (1 : Int32)) - (1 : Int32)) < 0) ∧ ((z11 + (1 : Int32)) - (1 : Int32)) < p2 := by
  exact own_ib2 hi18 c20
theorem ob_ins_45 (p2 z11 : Int32) (gg12 : Nat → Int32) (z34 : Int32) (hPq : (p2).toNatClampNeg ≤ 5) (hi18 : (¬ (z11 < (0 : Int32))) ∧ (z11).toNatClampNeg ≤ 5) (c20 : (z11 + (1 : Int32)) < p2) (c23 : (gg12 ((z11 + (1 : Int32))).toNatClampNeg) < (gg12 (((z11 + (1 : Int32)) - (1 : Int32))).toNatClampNeg)) (hi39 : (¬ (z34 < (0 : Int32))) ∧ z34 < p2) (c41 : (z34 + (-1 : Int32)) < (0 : Int32)) : (¬ ((z34 + (-1 : Int32)) + (1 : Int32)) < 0) ∧ ((z34 + (-1 : Int32)) + (1 : Int32)) < p2 := by
  exact own_ib4 hi39
theorem ob_ins_46 (p2 z11 : Int32) (gg12 : Nat → Int32) (z34 : Int32) (hPq : (p2).toNatClampNeg ≤ 5) (hi18 : (¬ (z11 < (0 : Int32))) ∧ (z11).toNatClampNeg ≤ 5) (c20 : (z11 + (1 : Int32)) < p2) (c23 : (gg12 ((z11 + (1 : Int32))).toNatClampNeg) < (gg12 (((z11 + (1 : Int32)) - (1 : Int32))).toNatClampNeg)) (hi39 : (¬ (z34 < (0 : Int32))) ∧ z34 < p2) (c41 : (z34 + (-1 : Int32)) < (0 : Int32)) : 10 - ((z11 + (1 : Int32))).toNatClampNeg < 10 - (z11).toNatClampNeg := by
  exact own_os2 hi18 c20 hPq
theorem ob_ins_47 (p2 z11 : Int32) (gg12 : Nat → Int32) (z34 : Int32) (hPq : (p2).toNatClampNeg ≤ 5) (hi18 : (¬ (z11 < (0 : Int32))) ∧ (z11).toNatClampNeg ≤ 5) (c20 : (z11 + (1 : Int32)) < p2) (c23 : (gg12 ((z11 + (1 : Int32))).toNatClampNeg) < (gg12 (((z11 + (1 : Int32)) - (1 : Int32))).toNatClampNeg)) (hi39 : (¬ (z34 < (0 : Int32))) ∧ z34 < p2) (c41 : (z34 + (-1 : Int32)) < (0 : Int32)) : (¬ ((z11 + (1 : Int32)) < (0 : Int32))) ∧ ((z11 + (1 : Int32))).toNatClampNeg ≤ 5 := by
  exact own_os1 hi18 c20 hPq
theorem ob_ins_48 (p2 z11 : Int32) (gg12 : Nat → Int32) (z34 : Int32) (hPq : (p2).toNatClampNeg ≤ 5) (hi18 : (¬ (z11 < (0 : Int32))) ∧ (z11).toNatClampNeg ≤ 5) (c20 : (z11 + (1 : Int32)) < p2) (c23 : (gg12 ((z11 + (1 : Int32))).toNatClampNeg) < (gg12 (((z11 + (1 : Int32)) - (1 : Int32))).toNatClampNeg)) (hi39 : (¬ (z34 < (0 : Int32))) ∧ z34 < p2) (c41 : ¬ ((z34 + (-1 : Int32)) < (0 : Int32))) : (¬ (z34 + (-1 : Int32)) < 0) ∧ (z34 + (-1 : Int32)) < p2 := by
  exact own_ib3 hi39 c41
theorem ob_ins_49 (p2 z11 : Int32) (gg12 : Nat → Int32) (z34 : Int32) (gg35 : Nat → Int32) (hPq : (p2).toNatClampNeg ≤ 5) (hi18 : (¬ (z11 < (0 : Int32))) ∧ (z11).toNatClampNeg ≤ 5) (c20 : (z11 + (1 : Int32)) < p2) (c23 : (gg12 ((z11 + (1 : Int32))).toNatClampNeg) < (gg12 (((z11 + (1 : Int32)) - (1 : Int32))).toNatClampNeg)) (hi39 : (¬ (z34 < (0 : Int32))) ∧ z34 < p2) (c41 : ¬ ((z34 + (-1 : Int32)) < (0 : Int32))) (c46 : (gg12 ((z11 + (1 : Int32))).toNatClampNeg) < (gg35 ((z34 + (-1 : Int32))).toNatClampNeg)) : (¬ (z34 + (-1 : Int32)) < 0) ∧ (z34 + (-1 : Int32)) < p2 := by
  exact own_ib3 hi39 c41
theorem ob_ins_50 (p2 z11 : Int32) (gg12 : Nat → Int32) (z34 : Int32) (gg35 : Nat → Int32) (hPq : (p2).toNatClampNeg ≤ 5) (hi18 : (¬ (z11 < (0 : Int32))) ∧ (z11).toNatClampNeg ≤ 5) (c20 : (z11 + (1 : Int32)) < p2) (c23 : (gg12 ((z11 + (1 : Int32))).toNatClampNeg) < (gg12 (((z11 + (1 : Int32)) - (1 : Int32))).toNatClampNeg)) (hi39 : (¬ (z34 < (0 : Int32))) ∧ z34 < p2) (c41 : ¬ ((z34 + (-1 : Int32)) < (0 : Int32))) (c46 : (gg12 ((z11 + (1 : Int32))).toNatClampNeg) < (gg35 ((z34 + (-1 : Int32))).toNatClampNeg)) : (¬ ((z34 + (-1 : Int32)) + (1 : Int32)) < 0) ∧ ((z34 + (-1 : Int32)) + (1 : Int32)) < p2 := by
  exact own_ib4 hi39
theorem ob_ins_51 (p2 z11 : Int32) (gg12 : Nat → Int32) (z34 : Int32) (gg35 : Nat → Int32) (hPq : (p2).toNatClampNeg ≤ 5) (hi18 : (¬ (z11 < (0 : Int32))) ∧ (z11).toNatClampNeg ≤ 5) (c20 : (z11 + (1 : Int32)) < p2) (c23 : (gg12 ((z11 + (1 : Int32))).toNatClampNeg) < (gg12 (((z11 + (1 : Int32)) - (1 : Int32))).toNatClampNeg)) (hi39 : (¬ (z34 < (0 : Int32))) ∧ z34 < p2) (c41 : ¬ ((z34 + (-1 : Int32)) < (0 : Int32))) (c46 : (gg12 ((z11 + (1 : Int32))).toNatClampNeg) < (gg35 ((z34 + (-1 : Int32))).toNatClampNeg)) : ((z34 + (-1 : Int32))).toNatClampNeg < (z34).toNatClampNeg := by
  exact own_is3 hi39 c41
theorem ob_ins_52 (p2 z11 : Int32) (gg12 : Nat → Int32) (z34 : Int32) (gg35 : Nat → Int32) (hPq : (p2).toNatClampNeg ≤ 5) (hi18 : (¬ (z11 < (0 : Int32))) ∧ (z11).toNatClampNeg ≤ 5) (c20 : (z11 + (1 : Int32)) < p2) (c23 : (gg12 ((z11 + (1 : Int32))).toNatClampNeg) < (gg12 (((z11 + (1 : Int32)) - (1 : Int32))).toNatClampNeg)) (hi39 : (¬ (z34 < (0 : Int32))) ∧ z34 < p2) (c41 : ¬ ((z34 + (-1 : Int32)) < (0 : Int32))) (c46 : (gg12 ((z11 + (1 : Int32))).toNatClampNeg) < (gg35 ((z34 + (-1 : Int32))).toNatClampNeg)) : (¬ ((z34 + (-1 : Int32)) < (0 : Int32))) ∧ (z34 + (-1 : Int32)) < p2 := by
  exact own_is2 hi39 c41
theorem ob_ins_53 (p2 z11 : Int32) (gg12 : Nat → Int32) (z34 : Int32) (gg35 : Nat → Int32) (hPq : (p2).toNatClampNeg ≤ 5) (hi18 : (¬ (z11 < (0 : Int32))) ∧ (z11).toNatClampNeg ≤ 5) (c20 : (z11 + (1 : Int32)) < p2) (c23 : (gg12 ((z11 + (1 : Int32))).toNatClampNeg) < (gg12 (((z11 + (1 : Int32)) - (1 : Int32))).toNatClampNeg)) (hi39 : (¬ (z34 < (0 : Int32))) ∧ z34 < p2) (c41 : ¬ ((z34 + (-1 : Int32)) < (0 : Int32))) (c46 : ¬ ((gg12 ((z11 + (1 : Int32))).toNatClampNeg) < (gg35 ((z34 + (-1 : Int32))).toNatClampNeg))) : (¬ ((z34 + (-1 : Int32)) + (1 : Int32)) < 0) ∧ ((z34 + (-1 : Int32)) + (1 : Int32)) < p2 := by
  exact own_ib4 hi39
theorem ob_ins_54 (p2 z11 : Int32) (gg12 : Nat → Int32) (z34 : Int32) (gg35 : Nat → Int32) (hPq : (p2).toNatClampNeg ≤ 5) (hi18 : (¬ (z11 < (0 : Int32))) ∧ (z11).toNatClampNeg ≤ 5) (c20 : (z11 + (1 : Int32)) < p2) (c23 : (gg12 ((z11 + (1 : Int32))).toNatClampNeg) < (gg12 (((z11 + (1 : Int32)) - (1 : Int32))).toNatClampNeg)) (hi39 : (¬ (z34 < (0 : Int32))) ∧ z34 < p2) (c41 : ¬ ((z34 + (-1 : Int32)) < (0 : Int32))) (c46 : ¬ ((gg12 ((z11 + (1 : Int32))).toNatClampNeg) < (gg35 ((z34 + (-1 : Int32))).toNatClampNeg))) : 10 - ((z11 + (1 : Int32))).toNatClampNeg < 10 - (z11).toNatClampNeg := by
  exact own_os2 hi18 c20 hPq
theorem ob_ins_55 (p2 z11 : Int32) (gg12 : Nat → Int32) (z34 : Int32) (gg35 : Nat → Int32) (hPq : (p2).toNatClampNeg ≤ 5) (hi18 : (¬ (z11 < (0 : Int32))) ∧ (z11).toNatClampNeg ≤ 5) (c20 : (z11 + (1 : Int32)) < p2) (c23 : (gg12 ((z11 + (1 : Int32))).toNatClampNeg) < (gg12 (((z11 + (1 : Int32)) - (1 : Int32))).toNatClampNeg)) (hi39 : (¬ (z34 < (0 : Int32))) ∧ z34 < p2) (c41 : ¬ ((z34 + (-1 : Int32)) < (0 : Int32))) (c46 : ¬ ((gg12 ((z11 + (1 : Int32))).toNatClampNeg) < (gg35 ((z34 + (-1 : Int32))).toNatClampNeg))) : (¬ ((z11 + (1 : Int32)) < (0 : Int32))) ∧ ((z11 + (1 : Int32))).toNatClampNeg ≤ 5 := by
  exact own_os1 hi18 c20 hPq
theorem ob_ins_56 (p2 z11 : Int32) (gg12 : Nat → Int32) (hPq : (p2).toNatClampNeg ≤ 5) (hi18 : (¬ (z11 < (0 : Int32))) ∧ (z11).toNatClampNeg ≤ 5) (c20 : (z11 + (1 : Int32)) < p2) (c23 : (gg12 ((z11 + (1 : Int32))).toNatClampNeg) < (gg12 (((z11 + (1 : Int32)) - (1 : Int32))).toNatClampNeg)) : (¬ ((z11 + (1 : Int32)) < (0 : Int32))) ∧ (z11 + (1 : Int32)) < p2 := by
  exact own_is1 hi18 c20
theorem ob_ins_57 (p2 z11 : Int32) (gg12 : Nat → Int32) (hPq : (p2).toNatClampNeg ≤ 5) (hi18 : (¬ (z11 < (0 : Int32))) ∧ (z11).toNatClampNeg ≤ 5) (c20 : (z11 + (1 : Int32)) < p2) (c23 : ¬ ((gg12 ((z11 + (1 : Int32))).toNatClampNeg) < (gg12 (((z11 + (1 : Int32)) - (1 : Int32))).toNatClampNeg))) : 10 - ((z11 + (1 : Int32))).toNatClampNeg < 10 - (z11).toNatClampNeg := by
  exact own_os2 hi18 c20 hPq
theorem ob_ins_58 (p2 z11 : Int32) (gg12 : Nat → Int32) (hPq : (p2).toNatClampNeg ≤ 5) (hi18 : (¬ (z11 < (0 : Int32))) ∧ (z11).toNatClampNeg ≤ 5) (c20 : (z11 + (1 : Int32)) < p2) (c23 : ¬ ((gg12 ((z11 + (1 : Int32))).toNatClampNeg) < (gg12 (((z11 + (1 : Int32)) - (1 : Int32))).toNatClampNeg))) : (¬ ((z11 + (1 : Int32)) < (0 : Int32))) ∧ ((z11 + (1 : Int32))).toNatClampNeg ≤ 5 := by
  exact own_os1 hi18 c20 hPq
theorem ob_ins_59 (p2 z11 : Int32) (hPq : (p2).toNatClampNeg ≤ 5) (hi18 : (¬ (z11 < (0 : Int32))) ∧ (z11).toNatClampNeg ≤ 5) (c20 : ¬ ((z11 + (1 : Int32)) < p2)) : True := by
  trivial
theorem ob_ins_60 (p2 : Int32) (hPq : (p2).toNatClampNeg ≤ 5) : (¬ ((0 : Int32) < (0 : Int32))) ∧ 0 ≤ 5 := by
  decide
def Qins (Z : State) (k_a0 : ClassId) (fn_a0 : Nat → Int32) (p2 : Int32) (a0 : Addr) (h0 : Heap) (n0 : Nat) (v : Option Value) (h : Heap) (L : List Loc) : Prop := ∃ (gg5001 : Nat → Int32), v = none ∧ Fr n0 L ∧ Keep h0 h [a0] ∧ Exa Z h a0 "[I" ∧ qA Z h a0 k_a0 .int p2 (fun i => .int (gg5001 i)) ∧ (True)
theorem rmins (l : Launch) (Z : State) (A0 : Array Value) (hw : ∀ d ∈ tables_1, d.before A0 Z = true) (ws : List Jvm.Cond) (k_a0 : ClassId) (fn_a0 : Nat → Int32) (p2 : Int32) (a0 : Addr) (h0 : Heap) (n0 : Nat) (Z0 : n0 ≤ h0.size) (P_E_a0 : Exa Z h0 a0 "[I") (P_V_a0 : qA Z h0 a0 k_a0 .int p2 (fun i => .int (fn_a0 i))) (hPq : (p2).toNatClampNeg ≤ 5) (g_a0 : n0 ≤ a0) :
  qM l Z (⟨"java/util/DualPivotQuicksort", "insertionSort", "([III)V"⟩ : MethodName) jdk_2529_method_6_code 6 none ws ({ frames := 0, cells := 0, slots := 0, locals := 0 } : Room) #[(.ref a0), (.int 0), (.int p2)] h0 (Qins Z k_a0 fn_a0 p2 a0 h0 n0) 0 0 := qe d27 (plainFor_of_name pn_ins) (fun m => ef_ins m a0 p2) fun p e s m below meth c s₁ hx Y hml hlk hown hnm X0 e0 hZ hrt => by
 have hwd := qw hw
 have N0 := Fr.nil n0
 show qG p e below _ (s₁.setTop (mkF m 0 #[vR a0, vI 0, vI p2, .unset, .unset, .unset] []))
 refine qb (fun _ k => XS.iloadN X0.here hx rfl (Y 0 rfl) rfl k) ?_
 refine qb (fun _ k => XS.istore X0.here hx rfl (Y 1 rfl) rfl (l' := #[vR a0, vI 0, vI p2, .unset, vI 0, .unset]) rfl k) ?_
 show qG p e below _ (s₁.setTop (mkF m 3 #[vR a0, vI 0, vI p2, .unset, vI 0, .unset] []))
 have LP9 : ∀ (fu10 : Nat) (T1 : State) (L2 : List Loc) (h3 : Heap) (z11 : Int32) (gg12 : Nat → Int32) (sl13 : Slot) (sl14 : Slot), fu10 = 10 - (z11).toNatClampNeg → Stand p l e ({ frames := 0, cells := 0, slots := 0, locals := 0 } : Room) s m #[(.ref a0), (.int 0), (.int p2)] below meth c T1 L2 0 0 → T1.heap = h3 → Fr n0 L2 → Keep h0 h3 [a0] → n0 ≤ h3.size → Exa Z h3 a0 "[I" → qA Z h3 a0 k_a0 .int p2 (fun i => .int (gg12 i)) → ((sl13 = .unset ∧ sl14 = .unset) ∨ (∃ (c_sl13 c_sl14 : Int32), sl13 = .val (.int c_sl13) ∧ sl14 = .val (.int c_sl14))) → ((¬ (z11 < (0 : Int32))) ∧ (z11).toNatClampNeg ≤ 5) → qG p e below (own_Fin s 0 0 (Qins Z k_a0 fn_a0 p2 a0 h0 n0)) (T1.setTop (mkF m 3 #[vR a0, vI 0, vI p2, sl13, vI z11, sl14] [])) := by
  intro fu10
  induction fu10 using Nat.strongRecOn with
  | _ fu10 ihfu10 =>
   intro T1 L2 h3 z11 gg12 sl13 sl14 hfu19 X4 e5 N6 K7 Z8 F16 F17 hd15 hi18
   refine qb (fun _ k => XS.iinc X4.here hx rfl (Y 2 rfl) rfl (l' := #[vR a0, vI 0, vI p2, sl13, vI (z11 + (1 : Int32)), sl14]) rfl k) ?_
   show qG p e below _ (T1.setTop (mkF m 6 #[vR a0, vI 0, vI p2, sl13, vI (z11 + (1 : Int32)), sl14] []))
   refine qb (fun _ k => XS.iload X4.here hx rfl (Y 3 rfl) rfl k) ?_
   refine qb (fun _ k => XS.iloadN X4.here hx rfl (Y 4 rfl) rfl k) ?_
   by_cases c20 : (z11 + (1 : Int32)) < p2
   ·skip
    refine qb (fun _ k => XS.icmpNo X4.here hx rfl (Y 5 rfl) rfl (tlt c20).2.1 k) ?_
    show qG p e below _ (T1.setTop (mkF m 12 #[vR a0, vI 0, vI p2, sl13, vI (z11 + (1 : Int32)), sl14] []))
    refine qb (fun _ k => XS.aloadN X4.here hx rfl (Y 6 rfl) rfl rfl k) ?_
    refine qb (fun _ k => XS.iload X4.here hx rfl (Y 7 rfl) rfl k) ?_
    refine qb (fun _ k => XS.dup X4.here hx rfl (Y 8 rfl) rfl rfl k) ?_
    refine qb (fun _ k => XS.istoreN X4.here hx rfl (Y 9 rfl) rfl (l' := #[vR a0, vI 0, vI p2, vI (z11 + (1 : Int32)), vI (z11 + (1 : Int32)), sl14]) (by rcases hd15 with ⟨rfl, rfl⟩ | ⟨_, _, rfl, rfl⟩ <;> rfl) k) ?_
    show qG p e below _ (T1.setTop (mkF m 17 #[vR a0, vI 0, vI p2, vI (z11 + (1 : Int32)), vI (z11 + (1 : Int32)), sl14] [(.int (z11 + (1 : Int32))), (.ref a0)]))
    obtain ⟨cl21, Ar21, qq21, S21, M21, H21, G21⟩ := id F17
    have hin21 : ¬ ((z11 + (1 : Int32)) < 0 ∨ cl21.slots.size ≤ ((z11 + (1 : Int32))).toNatClampNeg) := inb_of S21 (ob_ins_43 p2 z11 hPq hi18 c20)
    refine qb (fun t k => X4.iaload hx (j := (z11 + (1 : Int32))) (v := (.int (gg12 ((z11 + (1 : Int32))).toNatClampNeg))) (by rw [e5]; exact Ar21.1) (State.isArrayOf_alike hZ.alike Ar21.2.1) Ar21.2.2 hin21 (H21 _ (Nat.lt_of_not_le fun y => hin21 (Or.inr y))) (g := (mkF m 17 #[vR a0, vI 0, vI p2, vI (z11 + (1 : Int32)), vI (z11 + (1 : Int32)), sl14] [(.int (z11 + (1 : Int32))), (.ref a0)])) rfl rfl (Y 10 rfl) _ k) ?_
    show qG p e below _ (T1.setTop (mkF m 18 #[vR a0, vI 0, vI p2, vI (z11 + (1 : Int32)), vI (z11 + (1 : Int32)), sl14] [(.int (gg12 ((z11 + (1 : Int32))).toNatClampNeg))]))
    refine qb (fun _ k => XS.istore X4.here hx rfl (Y 11 rfl) rfl (l' := #[vR a0, vI 0, vI p2, vI (z11 + (1 : Int32)), vI (z11 + (1 : Int32)), vI (gg12 ((z11 + (1 : Int32))).toNatClampNeg)]) (by rcases hd15 with ⟨rfl, rfl⟩ | ⟨_, _, rfl, rfl⟩ <;> rfl) k) ?_
    show qG p e below _ (T1.setTop (mkF m 20 #[vR a0, vI 0, vI p2, vI (z11 + (1 : Int32)), vI (z11 + (1 : Int32)), vI (gg12 ((z11 + (1 : Int32))).toNatClampNeg)] []))
    refine qb (fun _ k => XS.iload X4.here hx rfl (Y 12 rfl) rfl k) ?_
    refine qb (fun _ k => XS.aloadN X4.here hx rfl (Y 13 rfl) rfl rfl k) ?_
    refine qb (fun _ k => XS.iloadN X4.here hx rfl (Y 14 rfl) rfl k) ?_
    refine qb (fun _ k => XS.iconst X4.here hx rfl (Y 15 rfl) k) ?_
    refine qb (fun _ k => XS.isub X4.here hx rfl (Y 16 rfl) rfl k) ?_
    obtain ⟨cl22, Ar22, qq22, S22, M22, H22, G22⟩ := id F17
    have hin22 : ¬ (((z11 + (1 : Int32)) - (1 : Int32)) < 0 ∨ cl22.slots.size ≤ (((z11 + (1 : Int32)) - (1 : Int32))).toNatClampNeg) := inb_of S22 (ob_ins_44 p2 z11 hPq hi18 c20)
    refine qb (fun t k => X4.iaload hx (j := ((z11 + (1 : Int32)) - (1 : Int32))) (v := (.int (gg12 (((z11 + (1 : Int32)) - (1 : Int32))).toNatClampNeg))) (by rw [e5]; exact Ar22.1) (State.isArrayOf_alike hZ.alike Ar22.2.1) Ar22.2.2 hin22 (H22 _ (Nat.lt_of_not_le fun y => hin22 (Or.inr y))) (g := (mkF m 26 #[vR a0, vI 0, vI p2, vI (z11 + (1 : Int32)), vI (z11 + (1 : Int32)), vI (gg12 ((z11 + (1 : Int32))).toNatClampNeg)] [(.int ((z11 + (1 : Int32)) - (1 : Int32))), (.ref a0), (.int (gg12 ((z11 + (1 : Int32))).toNatClampNeg))])) rfl rfl (Y 17 rfl) _ k) ?_
    show qG p e below _ (T1.setTop (mkF m 27 #[vR a0, vI 0, vI p2, vI (z11 + (1 : Int32)), vI (z11 + (1 : Int32)), vI (gg12 ((z11 + (1 : Int32))).toNatClampNeg)] [(.int (gg12 (((z11 + (1 : Int32)) - (1 : Int32))).toNatClampNeg)), (.int (gg12 ((z11 + (1 : Int32))).toNatClampNeg))]))
    by_cases c23 : (gg12 ((z11 + (1 : Int32))).toNatClampNeg) < (gg12 (((z11 + (1 : Int32)) - (1 : Int32))).toNatClampNeg)
    ·skip
     refine qb (fun _ k => XS.icmpNo X4.here hx rfl (Y 18 rfl) rfl (tlt c23).2.1 k) ?_
     show qG p e below _ (T1.setTop (mkF m 30 #[vR a0, vI 0, vI p2, vI (z11 + (1 : Int32)), vI (z11 + (1 : Int32)), vI (gg12 ((z11 + (1 : Int32))).toNatClampNeg)] []))
     have LP32 : ∀ (fu33 : Nat) (T24 : State) (L25 : List Loc) (h26 : Heap) (z34 : Int32) (gg35 : Nat → Int32), fu33 = (z34).toNatClampNeg → Stand p l e ({ frames := 0, cells := 0, slots := 0, locals := 0 } : Room) s m #[(.ref a0), (.int 0), (.int p2)] below meth c T24 L25 0 0 → T24.heap = h26 → Fr n0 L25 → Keep h0 h26 [a0] → n0 ≤ h26.size → Exa Z h26 a0 "[I" → qA Z h26 a0 k_a0 .int p2 (fun i => .int (gg35 i)) → ((¬ (z34 < (0 : Int32))) ∧ z34 < p2) → qG p e below (own_Fin s 0 0 (Qins Z k_a0 fn_a0 p2 a0 h0 n0)) (T24.setTop (mkF m 30 #[vR a0, vI 0, vI p2, vI z34, vI (z11 + (1 : Int32)), vI (gg12 ((z11 + (1 : Int32))).toNatClampNeg)] [])) := by
      intro fu33
      induction fu33 using Nat.strongRecOn with
      | _ fu33 ihfu33 =>
       intro T24 L25 h26 z34 gg35 hfu40 X27 e28 N29 K30 Z31 F37 F38 hi39
       refine qb (fun _ k => XS.iinc X27.here hx rfl (Y 19 rfl) rfl (l' := #[vR a0, vI 0, vI p2, vI (z34 + (-1 : Int32)), vI (z11 + (1 : Int32)), vI (gg12 ((z11 + (1 : Int32))).toNatClampNeg)]) rfl k) ?_
       show qG p e below _ (T24.setTop (mkF m 33 #[vR a0, vI 0, vI p2, vI (z34 + (-1 : Int32)), vI (z11 + (1 : Int32)), vI (gg12 ((z11 + (1 : Int32))).toNatClampNeg)] []))
       refine qb (fun _ k => XS.iloadN X27.here hx rfl (Y 20 rfl) rfl k) ?_
       refine qb (fun _ k => XS.iloadN X27.here hx rfl (Y 21 rfl) rfl k) ?_
       by_cases c41 : (z34 + (-1 : Int32)) < (0 : Int32)
       ·skip
        refine qb (fun _ k => XS.icmpYes X27.here hx rfl (pc0 := 35) (pc' := 57) rfl (Y 22 rfl) rfl (tlt c41).1 (by decide) (by decide) k) ?_
        show qG p e below _ (T24.setTop (mkF m 57 #[vR a0, vI 0, vI p2, vI (z34 + (-1 : Int32)), vI (z11 + (1 : Int32)), vI (gg12 ((z11 + (1 : Int32))).toNatClampNeg)] []))
        refine qb (fun _ k => XS.aloadN X27.here hx rfl (Y 37 rfl) rfl rfl k) ?_
        refine qb (fun _ k => XS.iloadN X27.here hx rfl (Y 38 rfl) rfl k) ?_
        refine qb (fun _ k => XS.iconst X27.here hx rfl (Y 39 rfl) k) ?_
        refine qb (fun _ k => XS.iadd X27.here hx rfl (Y 40 rfl) rfl k) ?_
        refine qb (fun _ k => XS.iload X27.here hx rfl (Y 41 rfl) rfl k) ?_
        obtain ⟨cl42, Ar42, qq42, S42, M42, H42, G42⟩ := id F38
        have hin42 : ¬ (((z34 + (-1 : Int32)) + (1 : Int32)) < 0 ∨ cl42.slots.size ≤ (((z34 + (-1 : Int32)) + (1 : Int32))).toNatClampNeg) := inb_of S42 (ob_ins_45 p2 z11 gg12 z34 hPq hi18 c20 c23 hi39 c41)
        obtain ⟨T43, h43, X43, e43, W43, st43⟩ := stI X27 hx hZ e28 Ar42 (j := ((z34 + (-1 : Int32)) + (1 : Int32))) hin42 (g := (mkF m 63 #[vR a0, vI 0, vI p2, vI (z34 + (-1 : Int32)), vI (z11 + (1 : Int32)), vI (gg12 ((z11 + (1 : Int32))).toNatClampNeg)] [(.int (gg12 ((z11 + (1 : Int32))).toNatClampNeg)), (.int ((z34 + (-1 : Int32)) + (1 : Int32))), (.ref a0)])) rfl rfl (Y 42 rfl)
        have V43 : qA Z h43 a0 k_a0 .int p2 (fun i => .int ((qu gg35 (((z34 + (-1 : Int32)) + (1 : Int32))).toNatClampNeg (gg12 ((z11 + (1 : Int32))).toNatClampNeg)) i)) := own_arfSetI Ar42 qq42 S42 M42 H42 G42 rfl W43
        have K43 : Keep h0 h43 [a0] := K30.wr W43 (Or.inl (List.mem_of_getElem? (i := 0) rfl))
        have Z43 := ql Z31 (Keep.of_wr W43).1
        have N43 := Fr.snoc X43 N29 g_a0
        refine qb st43 ?_
        show qG p e below _ (T43.setTop (mkF m 64 #[vR a0, vI 0, vI p2, vI (z34 + (-1 : Int32)), vI (z11 + (1 : Int32)), vI (gg12 ((z11 + (1 : Int32))).toNatClampNeg)] []))
        refine qb (fun _ k => XS.goto X43.here hx rfl (pc0 := 64) (pc' := 3) rfl (Y 43 rfl) (by decide) (by decide) k) ?_
        show qG p e below _ (T43.setTop (mkF m 3 #[vR a0, vI 0, vI p2, vI (z34 + (-1 : Int32)), vI (z11 + (1 : Int32)), vI (gg12 ((z11 + (1 : Int32))).toNatClampNeg)] []))
        have F44 := (F37.wr W43)
        exact ihfu10 _ (by rw [hfu19]; exact (ob_ins_46 p2 z11 gg12 z34 hPq hi18 c20 c23 hi39 c41)) _ _ _ (z11 + (1 : Int32)) (qu gg35 (((z34 + (-1 : Int32)) + (1 : Int32))).toNatClampNeg (gg12 ((z11 + (1 : Int32))).toNatClampNeg)) (.val (.int (z34 + (-1 : Int32))) : Slot) (.val (.int (gg12 ((z11 + (1 : Int32))).toNatClampNeg)) : Slot) rfl X43 e43 N43 K43 Z43 F44 V43 (Or.inr ⟨_, _, rfl, rfl⟩) (ob_ins_47 p2 z11 gg12 z34 hPq hi18 c20 c23 hi39 c41)
       ·skip
        refine qb (fun _ k => XS.icmpNo X27.here hx rfl (Y 22 rfl) rfl (flt c41).1 k) ?_
        show qG p e below _ (T24.setTop (mkF m 38 #[vR a0, vI 0, vI p2, vI (z34 + (-1 : Int32)), vI (z11 + (1 : Int32)), vI (gg12 ((z11 + (1 : Int32))).toNatClampNeg)] []))
        refine qb (fun _ k => XS.iload X27.here hx rfl (Y 23 rfl) rfl k) ?_
        refine qb (fun _ k => XS.aloadN X27.here hx rfl (Y 24 rfl) rfl rfl k) ?_
        refine qb (fun _ k => XS.iloadN X27.here hx rfl (Y 25 rfl) rfl k) ?_
        obtain ⟨cl45, Ar45, qq45, S45, M45, H45, G45⟩ := id F38
        have hin45 : ¬ ((z34 + (-1 : Int32)) < 0 ∨ cl45.slots.size ≤ ((z34 + (-1 : Int32))).toNatClampNeg) := inb_of S45 (ob_ins_48 p2 z11 gg12 z34 hPq hi18 c20 c23 hi39 c41)
        refine qb (fun t k => X27.iaload hx (j := (z34 + (-1 : Int32))) (v := (.int (gg35 ((z34 + (-1 : Int32))).toNatClampNeg))) (by rw [e28]; exact Ar45.1) (State.isArrayOf_alike hZ.alike Ar45.2.1) Ar45.2.2 hin45 (H45 _ (Nat.lt_of_not_le fun y => hin45 (Or.inr y))) (g := (mkF m 42 #[vR a0, vI 0, vI p2, vI (z34 + (-1 : Int32)), vI (z11 + (1 : Int32)), vI (gg12 ((z11 + (1 : Int32))).toNatClampNeg)] [(.int (z34 + (-1 : Int32))), (.ref a0), (.int (gg12 ((z11 + (1 : Int32))).toNatClampNeg))])) rfl rfl (Y 26 rfl) _ k) ?_
        show qG p e below _ (T24.setTop (mkF m 43 #[vR a0, vI 0, vI p2, vI (z34 + (-1 : Int32)), vI (z11 + (1 : Int32)), vI (gg12 ((z11 + (1 : Int32))).toNatClampNeg)] [(.int (gg35 ((z34 + (-1 : Int32))).toNatClampNeg)), (.int (gg12 ((z11 + (1 : Int32))).toNatClampNeg))]))
        by_cases c46 : (gg12 ((z11 + (1 : Int32))).toNatClampNeg) < (gg35 ((z34 + (-1 : Int32))).toNatClampNeg)
        ·skip
         refine qb (fun _ k => XS.icmpNo X27.here hx rfl (Y 27 rfl) rfl (tlt c46).2.1 k) ?_
         show qG p e below _ (T24.setTop (mkF m 46 #[vR a0, vI 0, vI p2, vI (z34 + (-1 : Int32)), vI (z11 + (1 : Int32)), vI (gg12 ((z11 + (1 : Int32))).toNatClampNeg)] []))
         refine qb (fun _ k => XS.aloadN X27.here hx rfl (Y 28 rfl) rfl rfl k) ?_
         refine qb (fun _ k => XS.iloadN X27.here hx rfl (Y 29 rfl) rfl k) ?_
         refine qb (fun _ k => XS.iconst X27.here hx rfl (Y 30 rfl) k) ?_
         refine qb (fun _ k => XS.iadd X27.here hx rfl (Y 31 rfl) rfl k) ?_
         refine qb (fun _ k => XS.aloadN X27.here hx rfl (Y 32 rfl) rfl rfl k) ?_
         refine qb (fun _ k => XS.iloadN X27.here hx rfl (Y 33 rfl) rfl k) ?_
         obtain ⟨cl47, Ar47, qq47, S47, M47, H47, G47⟩ := id F38
         have hin47 : ¬ ((z34 + (-1 : Int32)) < 0 ∨ cl47.slots.size ≤ ((z34 + (-1 : Int32))).toNatClampNeg) := inb_of S47 (ob_ins_49 p2 z11 gg12 z34 gg35 hPq hi18 c20 c23 hi39 c41 c46)
         refine qb (fun t k => X27.iaload hx (j := (z34 + (-1 : Int32))) (v := (.int (gg35 ((z34 + (-1 : Int32))).toNatClampNeg))) (by rw [e28]; exact Ar47.1) (State.isArrayOf_alike hZ.alike Ar47.2.1) Ar47.2.2 hin47 (H47 _ (Nat.lt_of_not_le fun y => hin47 (Or.inr y))) (g := (mkF m 52 #[vR a0, vI 0, vI p2, vI (z34 + (-1 : Int32)), vI (z11 + (1 : Int32)), vI (gg12 ((z11 + (1 : Int32))).toNatClampNeg)] [(.int (z34 + (-1 : Int32))), (.ref a0), (.int ((z34 + (-1 : Int32)) + (1 : Int32))), (.ref a0)])) rfl rfl (Y 34 rfl) _ k) ?_
         show qG p e below _ (T24.setTop (mkF m 53 #[vR a0, vI 0, vI p2, vI (z34 + (-1 : Int32)), vI (z11 + (1 : Int32)), vI (gg12 ((z11 + (1 : Int32))).toNatClampNeg)] [(.int (gg35 ((z34 + (-1 : Int32))).toNatClampNeg)), (.int ((z34 + (-1 : Int32)) + (1 : Int32))), (.ref a0)]))
         obtain ⟨cl48, Ar48, qq48, S48, M48, H48, G48⟩ := id F38
         have hin48 : ¬ (((z34 + (-1 : Int32)) + (1 : Int32)) < 0 ∨ cl48.slots.size ≤ (((z34 + (-1 : Int32)) + (1 : Int32))).toNatClampNeg) := inb_of S48 (ob_ins_50 p2 z11 gg12 z34 gg35 hPq hi18 c20 c23 hi39 c41 c46)
         obtain ⟨T49, h49, X49, e49, W49, st49⟩ := stI X27 hx hZ e28 Ar48 (j := ((z34 + (-1 : Int32)) + (1 : Int32))) hin48 (g := (mkF m 53 #[vR a0, vI 0, vI p2, vI (z34 + (-1 : Int32)), vI (z11 + (1 : Int32)), vI (gg12 ((z11 + (1 : Int32))).toNatClampNeg)] [(.int (gg35 ((z34 + (-1 : Int32))).toNatClampNeg)), (.int ((z34 + (-1 : Int32)) + (1 : Int32))), (.ref a0)])) rfl rfl (Y 35 rfl)
         have V49 : qA Z h49 a0 k_a0 .int p2 (fun i => .int ((qu gg35 (((z34 + (-1 : Int32)) + (1 : Int32))).toNatClampNeg (gg35 ((z34 + (-1 : Int32))).toNatClampNeg)) i)) := own_arfSetI Ar48 qq48 S48 M48 H48 G48 rfl W49
         have K49 : Keep h0 h49 [a0] := K30.wr W49 (Or.inl (List.mem_of_getElem? (i := 0) rfl))
         have Z49 := ql Z31 (Keep.of_wr W49).1
         have N49 := Fr.snoc X49 N29 g_a0
         refine qb st49 ?_
         show qG p e below _ (T49.setTop (mkF m 54 #[vR a0, vI 0, vI p2, vI (z34 + (-1 : Int32)), vI (z11 + (1 : Int32)), vI (gg12 ((z11 + (1 : Int32))).toNatClampNeg)] []))
         refine qb (fun _ k => XS.goto X49.here hx rfl (pc0 := 54) (pc' := 30) rfl (Y 36 rfl) (by decide) (by decide) k) ?_
         show qG p e below _ (T49.setTop (mkF m 30 #[vR a0, vI 0, vI p2, vI (z34 + (-1 : Int32)), vI (z11 + (1 : Int32)), vI (gg12 ((z11 + (1 : Int32))).toNatClampNeg)] []))
         have F50 := (F37.wr W49)
         exact ihfu33 _ (by rw [hfu40]; exact (ob_ins_51 p2 z11 gg12 z34 gg35 hPq hi18 c20 c23 hi39 c41 c46)) _ _ _ (z34 + (-1 : Int32)) (qu gg35 (((z34 + (-1 : Int32)) + (1 : Int32))).toNatClampNeg (gg35 ((z34 + (-1 : Int32))).toNatClampNeg)) rfl X49 e49 N49 K49 Z49 F50 V49 (ob_ins_52 p2 z11 gg12 z34 gg35 hPq hi18 c20 c23 hi39 c41 c46)
        ·skip
         refine qb (fun _ k => XS.icmpYes X27.here hx rfl (pc0 := 43) (pc' := 57) rfl (Y 27 rfl) rfl (flt c46).2.1 (by decide) (by decide) k) ?_
         show qG p e below _ (T24.setTop (mkF m 57 #[vR a0, vI 0, vI p2, vI (z34 + (-1 : Int32)), vI (z11 + (1 : Int32)), vI (gg12 ((z11 + (1 : Int32))).toNatClampNeg)] []))
         refine qb (fun _ k => XS.aloadN X27.here hx rfl (Y 37 rfl) rfl rfl k) ?_
         refine qb (fun _ k => XS.iloadN X27.here hx rfl (Y 38 rfl) rfl k) ?_
         refine qb (fun _ k => XS.iconst X27.here hx rfl (Y 39 rfl) k) ?_
         refine qb (fun _ k => XS.iadd X27.here hx rfl (Y 40 rfl) rfl k) ?_
         refine qb (fun _ k => XS.iload X27.here hx rfl (Y 41 rfl) rfl k) ?_
         obtain ⟨cl51, Ar51, qq51, S51, M51, H51, G51⟩ := id F38
         have hin51 : ¬ (((z34 + (-1 : Int32)) + (1 : Int32)) < 0 ∨ cl51.slots.size ≤ (((z34 + (-1 : Int32)) + (1 : Int32))).toNatClampNeg) := inb_of S51 (ob_ins_53 p2 z11 gg12 z34 gg35 hPq hi18 c20 c23 hi39 c41 c46)
         obtain ⟨T52, h52, X52, e52, W52, st52⟩ := stI X27 hx hZ e28 Ar51 (j := ((z34 + (-1 : Int32)) + (1 : Int32))) hin51 (g := (mkF m 63 #[vR a0, vI 0, vI p2, vI (z34 + (-1 : Int32)), vI (z11 + (1 : Int32)), vI (gg12 ((z11 + (1 : Int32))).toNatClampNeg)] [(.int (gg12 ((z11 + (1 : Int32))).toNatClampNeg)), (.int ((z34 + (-1 : Int32)) + (1 : Int32))), (.ref a0)])) rfl rfl (Y 42 rfl)
         have V52 : qA Z h52 a0 k_a0 .int p2 (fun i => .int ((qu gg35 (((z34 + (-1 : Int32)) + (1 : Int32))).toNatClampNeg (gg12 ((z11 + (1 : Int32))).toNatClampNeg)) i)) := own_arfSetI Ar51 qq51 S51 M51 H51 G51 rfl W52
         have K52 : Keep h0 h52 [a0] := K30.wr W52 (Or.inl (List.mem_of_getElem? (i := 0) rfl))
         have Z52 := ql Z31 (Keep.of_wr W52).1
         have N52 := Fr.snoc X52 N29 g_a0
         refine qb st52 ?_
         show qG p e below _ (T52.setTop (mkF m 64 #[vR a0, vI 0, vI p2, vI (z34 + (-1 : Int32)), vI (z11 + (1 : Int32)), vI (gg12 ((z11 + (1 : Int32))).toNatClampNeg)] []))
         refine qb (fun _ k => XS.goto X52.here hx rfl (pc0 := 64) (pc' := 3) rfl (Y 43 rfl) (by decide) (by decide) k) ?_
         show qG p e below _ (T52.setTop (mkF m 3 #[vR a0, vI 0, vI p2, vI (z34 + (-1 : Int32)), vI (z11 + (1 : Int32)), vI (gg12 ((z11 + (1 : Int32))).toNatClampNeg)] []))
         have F53 := (F37.wr W52)
         exact ihfu10 _ (by rw [hfu19]; exact (ob_ins_54 p2 z11 gg12 z34 gg35 hPq hi18 c20 c23 hi39 c41 c46)) _ _ _ (z11 + (1 : Int32)) (qu gg35 (((z34 + (-1 : Int32)) + (1 : Int32))).toNatClampNeg (gg12 ((z11 + (1 : Int32))).toNatClampNeg)) (.val (.int (z34 + (-1 : Int32))) : Slot) (.val (.int (gg12 ((z11 + (1 : Int32))).toNatClampNeg)) : Slot) rfl X52 e52 N52 K52 Z52 F53 V52 (Or.inr ⟨_, _, rfl, rfl⟩) (ob_ins_55 p2 z11 gg12 z34 gg35 hPq hi18 c20 c23 hi39 c41 c46)
     exact LP32 _ _ _ _ (z11 + (1 : Int32)) gg12 rfl X4 e5 N6 K7 Z8 F16 F17 (ob_ins_56 p2 z11 gg12 hPq hi18 c20 c23)
    ·skip
     refine qb (fun _ k => XS.icmpYes X4.here hx rfl (pc0 := 27) (pc' := 64) rfl (Y 18 rfl) rfl (flt c23).2.1 (by decide) (by decide) k) ?_
     show qG p e below _ (T1.setTop (mkF m 64 #[vR a0, vI 0, vI p2, vI (z11 + (1 : Int32)), vI (z11 + (1 : Int32)), vI (gg12 ((z11 + (1 : Int32))).toNatClampNeg)] []))
     refine qb (fun _ k => XS.goto X4.here hx rfl (pc0 := 64) (pc' := 3) rfl (Y 43 rfl) (by decide) (by decide) k) ?_
     show qG p e below _ (T1.setTop (mkF m 3 #[vR a0, vI 0, vI p2, vI (z11 + (1 : Int32)), vI (z11 + (1 : Int32)), vI (gg12 ((z11 + (1 : Int32))).toNatClampNeg)] []))
     exact ihfu10 _ (by rw [hfu19]; exact (ob_ins_57 p2 z11 gg12 hPq hi18 c20 c23)) _ _ _ (z11 + (1 : Int32)) gg12 (.val (.int (z11 + (1 : Int32))) : Slot) (.val (.int (gg12 ((z11 + (1 : Int32))).toNatClampNeg)) : Slot) rfl X4 e5 N6 K7 Z8 F16 F17 (Or.inr ⟨_, _, rfl, rfl⟩) (ob_ins_58 p2 z11 gg12 hPq hi18 c20 c23)
   ·skip
    refine qb (fun _ k => XS.icmpYes X4.here hx rfl (pc0 := 9) (pc' := 67) rfl (Y 5 rfl) rfl (flt c20).2.1 (by decide) (by decide) k) ?_
    show qG p e below _ (T1.setTop (mkF m 67 #[vR a0, vI 0, vI p2, sl13, vI (z11 + (1 : Int32)), sl14] []))
    exact own_ret0 X4 hx hrt (Y 44 rfl) hlk e5 ⟨gg12, rfl, N6, K7, F16, F17, (ob_ins_59 p2 z11 hPq hi18 c20)⟩ (by decide) (by decide)
 exact LP9 _ _ _ _ (0 : Int32) fn_a0 .unset .unset rfl X0 e0 N0 (Keep.refl h0 [a0]) Z0 P_E_a0 P_V_a0 (Or.inl ⟨rfl, rfl⟩) (ob_ins_60 p2 hPq)
theorem pd_209 : parseMethodDescriptor "([III)V" = some ⟨[(.array .int), .int, .int], none⟩ := by decide +kernel
theorem d26 : own_ds jdk_2529_method_4_code [(0, .iload 4, 2), (2, .iconst 1, 1), (3, .isub, 1), (4, .istore 5, 2), (6, .iload 4, 2), (8, .iload_n 3, 1), (9, .isub, 1), (10, .istore 6, 2), (12, .iload 6, 2), (14, .bipush 65, 2), (16, .iload_n 2, 1), (17, .iadd, 1), (18, .if_icmp .ge 28, 3), (21, .iload_n 2, 1), (22, .iconst 1, 1), (23, .iand, 1), (24, .ifCond .le 22, 3), (46, .iload 6, 2), (48, .bipush 44, 2), (50, .if_icmp .ge 11, 3), (53, .aload_n 1, 1), (54, .iload_n 3, 1), (55, .iload 4, 2), (57, .invokestatic 34, 3), (60, .return_, 1)] = true := by decide +kernel
theorem ef_dp2 (m : MethodId) (a1 : Addr) (p4 : Int32) : entryFrame m #[.null, (.ref a1), (.int 0), (.int 0), (.int p4)] 21 = mkF m 0 #[.val .null, vR a1, vI 0, vI 0, vI p4, .unset, .unset, .unset, .unset, .unset, .unset, .unset, .unset, .unset, .unset, .unset, .unset, .unset, .unset, .unset, .unset] [] := by first | (simp [entryFrame, mkF, argsToLocals, Value.category]; done) | rfl
theorem ob_dp2_61 (p4 : Int32) (hPq : (p4).toNatClampNeg ≤ 5) : p4 < (65 : Int32) := by
  simp only [Int32.lt_iff_toInt_lt, Int32.toNatClampNeg, own_l0, own_l1, own_l5, own_l44, own_l65] at *
  omega
theorem ob_dp2_62 (p4 : Int32) (hPq : (p4).toNatClampNeg ≤ 5) : p4 < (44 : Int32) := by
  simp only [Int32.lt_iff_toInt_lt, Int32.toNatClampNeg, own_l0, own_l1, own_l5, own_l44, own_l65] at *
  omega
theorem ob_dp2_63 (p4 : Int32) (hPq : (p4).toNatClampNeg ≤ 5) (hp7 : True) : True := by
  trivial
def Qdp2 (Z : State) (k_a1 : ClassId) (fn_a1 : Nat → Int32) (p4 : Int32) (a1 : Addr) (h0 : Heap) (n0 : Nat) (v : Option Value) (h : Heap) (L : List Loc) : Prop := ∃ (gg5001 : Nat → Int32), v = none ∧ Fr n0 L ∧ Keep h0 h [a1] ∧ Exa Z h a1 "[I" ∧ qA Z h a1 k_a1 .int p4 (fun i => .int (gg5001 i)) ∧ (True)
theorem rmdp2 (l : Launch) (Z : State) (A0 : Array Value) (hw : ∀ d ∈ tables_1, d.before A0 Z = true) (ws : List Jvm.Cond) (k_a1 : ClassId) (fn_a1 : Nat → Int32) (p4 : Int32) (a1 : Addr) (h0 : Heap) (n0 : Nat) (Z0 : n0 ≤ h0.size) (P_E_a1 : Exa Z h0 a1 "[I") (P_V_a1 : qA Z h0 a1 k_a1 .int p4 (fun i => .int (fn_a1 i))) (hPq : (p4).toNatClampNeg ≤ 5) (g_a1 : n0 ≤ a1) :
  qM l Z (⟨"java/util/DualPivotQuicksort", "sort", "(Ljava/util/DualPivotQuicksort$Sorter;[IIII)V"⟩ : MethodName) jdk_2529_method_4_code 21 none ws ({ frames := 1, cells := 0, slots := 0, locals := 17 } : Room) #[.null, (.ref a1), (.int 0), (.int 0), (.int p4)] h0 (Qdp2 Z k_a1 fn_a1 p4 a1 h0 n0) 0 0 := qe d26 (plainFor_of_name pn_ins) (fun m => ef_dp2 m a1 p4) fun p e s m below meth c s₁ hx y hml hlk hown hnm X0 e0 hZ hrt => by
 have hwd := qw hw
 have N0 := Fr.nil n0
 show qG p e below _ (s₁.setTop (mkF m 0 #[.val .null, vR a1, vI 0, vI 0, vI p4, .unset, .unset, .unset, .unset, .unset, .unset, .unset, .unset, .unset, .unset, .unset, .unset, .unset, .unset, .unset, .unset] []))
 refine qb (fun _ k => XS.iload X0.here hx rfl (y 0 rfl) rfl k) ?_
 refine qb (fun _ k => XS.iconst X0.here hx rfl (y 1 rfl) k) ?_
 refine qb (fun _ k => XS.isub X0.here hx rfl (y 2 rfl) rfl k) ?_
 refine qb (fun _ k => XS.istore X0.here hx rfl (y 3 rfl) rfl (l' := #[.val .null, vR a1, vI 0, vI 0, vI p4, vI (p4 - (1 : Int32)), .unset, .unset, .unset, .unset, .unset, .unset, .unset, .unset, .unset, .unset, .unset, .unset, .unset, .unset, .unset]) rfl k) ?_
 show qG p e below _ (s₁.setTop (mkF m 6 #[.val .null, vR a1, vI 0, vI 0, vI p4, vI (p4 - (1 : Int32)), .unset, .unset, .unset, .unset, .unset, .unset, .unset, .unset, .unset, .unset, .unset, .unset, .unset, .unset, .unset] []))
 refine qb (fun _ k => XS.iload X0.here hx rfl (y 4 rfl) rfl k) ?_
 refine qb (fun _ k => XS.iloadN X0.here hx rfl (y 5 rfl) rfl k) ?_
 refine qb (fun _ k => XS.isub X0.here hx rfl (y 6 rfl) rfl k) ?_
 show qG p e below _ (s₁.setTop (mkF m 10 #[.val .null, vR a1, vI 0, vI 0, vI p4, vI (p4 - (1 : Int32)), .unset, .unset, .unset, .unset, .unset, .unset, .unset, .unset, .unset, .unset, .unset, .unset, .unset, .unset, .unset] [(.int (p4 - (0 : Int32)))]))
 rw [own_isub0]
 show qG p e below _ (s₁.setTop (mkF m 10 #[.val .null, vR a1, vI 0, vI 0, vI p4, vI (p4 - (1 : Int32)), .unset, .unset, .unset, .unset, .unset, .unset, .unset, .unset, .unset, .unset, .unset, .unset, .unset, .unset, .unset] [(.int p4)]))
 refine qb (fun _ k => XS.istore X0.here hx rfl (y 7 rfl) rfl (l' := #[.val .null, vR a1, vI 0, vI 0, vI p4, vI (p4 - (1 : Int32)), vI p4, .unset, .unset, .unset, .unset, .unset, .unset, .unset, .unset, .unset, .unset, .unset, .unset, .unset, .unset]) rfl k) ?_
 show qG p e below _ (s₁.setTop (mkF m 12 #[.val .null, vR a1, vI 0, vI 0, vI p4, vI (p4 - (1 : Int32)), vI p4, .unset, .unset, .unset, .unset, .unset, .unset, .unset, .unset, .unset, .unset, .unset, .unset, .unset, .unset] []))
 refine qb (fun _ k => XS.iload X0.here hx rfl (y 8 rfl) rfl k) ?_
 refine qb (fun _ k => XS.bipush X0.here hx rfl (y 9 rfl) k) ?_
 refine qb (fun _ k => XS.iloadN X0.here hx rfl (y 10 rfl) rfl k) ?_
 refine qb (fun _ k => XS.iadd X0.here hx rfl (y 11 rfl) rfl k) ?_
 have hd1 : p4 < (65 : Int32) := (ob_dp2_61 p4 hPq)
 refine qb (fun _ k => XS.icmpNo X0.here hx rfl (y 12 rfl) rfl (tlt hd1).2.1 k) ?_
 show qG p e below _ (s₁.setTop (mkF m 21 #[.val .null, vR a1, vI 0, vI 0, vI p4, vI (p4 - (1 : Int32)), vI p4, .unset, .unset, .unset, .unset, .unset, .unset, .unset, .unset, .unset, .unset, .unset, .unset, .unset, .unset] []))
 refine qb (fun _ k => XS.iloadN X0.here hx rfl (y 13 rfl) rfl k) ?_
 refine qb (fun _ k => XS.iconst X0.here hx rfl (y 14 rfl) k) ?_
 refine qb (fun _ k => XS.iand X0.here hx rfl (y 15 rfl) rfl k) ?_
 refine qb (fun _ k => XS.ifYes X0.here hx rfl (pc0 := 24) (pc' := 46) rfl (y 16 rfl) rfl ((if0 _ _).trans (flt (by decide : ¬ ((0 : Int32) < (0 : Int32)))).2.2.2) (by decide) (by decide) k) ?_
 show qG p e below _ (s₁.setTop (mkF m 46 #[.val .null, vR a1, vI 0, vI 0, vI p4, vI (p4 - (1 : Int32)), vI p4, .unset, .unset, .unset, .unset, .unset, .unset, .unset, .unset, .unset, .unset, .unset, .unset, .unset, .unset] []))
 refine qb (fun _ k => XS.iload X0.here hx rfl (y 17 rfl) rfl k) ?_
 refine qb (fun _ k => XS.bipush X0.here hx rfl (y 18 rfl) k) ?_
 have hd2 : p4 < (44 : Int32) := (ob_dp2_62 p4 hPq)
 refine qb (fun _ k => XS.icmpNo X0.here hx rfl (y 19 rfl) rfl (tlt hd2).2.1 k) ?_
 show qG p e below _ (s₁.setTop (mkF m 53 #[.val .null, vR a1, vI 0, vI 0, vI p4, vI (p4 - (1 : Int32)), vI p4, .unset, .unset, .unset, .unset, .unset, .unset, .unset, .unset, .unset, .unset, .unset, .unset, .unset, .unset] []))
 refine qb (fun _ k => XS.aloadN X0.here hx rfl (y 20 rfl) rfl rfl k) ?_
 refine qb (fun _ k => XS.iloadN X0.here hx rfl (y 21 rfl) rfl k) ?_
 refine qb (fun _ k => XS.iload X0.here hx rfl (y 22 rfl) rfl k) ?_
 obtain ⟨_, T3, Lc3, X3, hQ3, st3⟩ := own_cS X0 hx hZ hown hml (rmins l Z A0 hw [] k_a1 fn_a1 p4 a1 h0 n0 Z0 P_E_a1 P_V_a1 hPq g_a1) (hwd 209 rfl) (hwd 210 rfl) (hwd 204 rfl) (hwd 211 rfl) (by decide) pd_209 e0 (g := (mkF m 57 #[.val .null, vR a1, vI 0, vI 0, vI p4, vI (p4 - (1 : Int32)), vI p4, .unset, .unset, .unset, .unset, .unset, .unset, .unset, .unset, .unset, .unset, .unset, .unset, .unset, .unset] [(.int p4), (.int 0), (.ref a1)])) (rest := []) rfl rfl rfl rfl (y 23 rfl) rfl
 obtain ⟨b4, rfl, Nq3, Kq3, F5, F6, hp7⟩ := hQ3
 have N3 := Fr.app N0 Nq3
 have K3 : Keep h0 T3.heap [a1] := (Keep.refl h0 [a1]).trans Kq3 ((allS (Or.inl (List.mem_of_getElem? (i := 0) rfl)) all0))
 have Z3 := ql Z0 Kq3.1
 refine qb st3 ?_
 show qG p e below _ (T3.setTop (mkF m 60 #[.val .null, vR a1, vI 0, vI 0, vI p4, vI (p4 - (1 : Int32)), vI p4, .unset, .unset, .unset, .unset, .unset, .unset, .unset, .unset, .unset, .unset, .unset, .unset, .unset, .unset] []))
 exact own_ret0 X3 hx hrt (y 24 rfl) hlk rfl ⟨b4, rfl, N3, K3, F5, F6, (ob_dp2_63 p4 hPq hp7)⟩ (by decide) (by decide)
theorem pd_206 : parseMethodDescriptor "(Ljava/util/DualPivotQuicksort$Sorter;[IIII)V" = some ⟨[(.object "java/util/DualPivotQuicksort$Sorter"), (.array .int), .int, .int, .int], none⟩ := by decide +kernel
theorem d25 : own_ds jdk_2529_method_3_code [(0, .iload_n 3, 1), (1, .iload_n 2, 1), (2, .isub, 1), (3, .istore 4, 2), (5, .iload_n 1, 1), (6, .iconst 1, 1), (7, .if_icmp .le 61, 3), (68, .aconst_null, 1), (69, .aload_n 0, 1), (70, .iconst 0, 1), (71, .iload_n 2, 1), (72, .iload_n 3, 1), (73, .invokestatic 26, 3), (76, .return_, 1)] = true := by decide +kernel
theorem ef_dp1 (m : MethodId) (a0 : Addr) (p3 : Int32) : entryFrame m #[(.ref a0), (.int 0), (.int 0), (.int p3)] 7 = mkF m 0 #[vR a0, vI 0, vI 0, vI p3, .unset, .unset, .unset] [] := by first | (simp [entryFrame, mkF, argsToLocals, Value.category]; done) | rfl
theorem ob_dp1_64 (p3 : Int32) (hPq : (p3).toNatClampNeg ≤ 5) (hp5 : True) : True := by
  trivial
def Qdp1 (Z : State) (k_a0 : ClassId) (fn_a0 : Nat → Int32) (p3 : Int32) (a0 : Addr) (h0 : Heap) (n0 : Nat) (v : Option Value) (h : Heap) (L : List Loc) : Prop := ∃ (gg5001 : Nat → Int32), v = none ∧ Fr n0 L ∧ Keep h0 h [a0] ∧ Exa Z h a0 "[I" ∧ qA Z h a0 k_a0 .int p3 (fun i => .int (gg5001 i)) ∧ (True)
theorem rmdp1 (l : Launch) (Z : State) (A0 : Array Value) (hw : ∀ d ∈ tables_1, d.before A0 Z = true) (ws : List Jvm.Cond) (k_a0 : ClassId) (fn_a0 : Nat → Int32) (p3 : Int32) (a0 : Addr) (h0 : Heap) (n0 : Nat) (Z0 : n0 ≤ h0.size) (P_E_a0 : Exa Z h0 a0 "[I") (P_V_a0 : qA Z h0 a0 k_a0 .int p3 (fun i => .int (fn_a0 i))) (hPq : (p3).toNatClampNeg ≤ 5) (g_a0 : n0 ≤ a0) :
  qM l Z (⟨"java/util/DualPivotQuicksort", "sort", "([IIII)V"⟩ : MethodName) jdk_2529_method_3_code 7 none ws ({ frames := 2, cells := 0, slots := 0, locals := 49 } : Room) #[(.ref a0), (.int 0), (.int 0), (.int p3)] h0 (Qdp1 Z k_a0 fn_a0 p3 a0 h0 n0) 0 0 := qe d25 (plainFor_of_name pn_ins) (fun m => ef_dp1 m a0 p3) fun p e s m below meth c s₁ hx y hml hlk hown hnm X0 e0 hZ hrt => by
 have hwd := qw hw
 have N0 := Fr.nil n0
 show qG p e below _ (s₁.setTop (mkF m 0 #[vR a0, vI 0, vI 0, vI p3, .unset, .unset, .unset] []))
 refine qb (fun _ k => XS.iloadN X0.here hx rfl (y 0 rfl) rfl k) ?_
 refine qb (fun _ k => XS.iloadN X0.here hx rfl (y 1 rfl) rfl k) ?_
 refine qb (fun _ k => XS.isub X0.here hx rfl (y 2 rfl) rfl k) ?_
 show qG p e below _ (s₁.setTop (mkF m 3 #[vR a0, vI 0, vI 0, vI p3, .unset, .unset, .unset] [(.int (p3 - (0 : Int32)))]))
 rw [own_isub0]
 show qG p e below _ (s₁.setTop (mkF m 3 #[vR a0, vI 0, vI 0, vI p3, .unset, .unset, .unset] [(.int p3)]))
 refine qb (fun _ k => XS.istore X0.here hx rfl (y 3 rfl) rfl (l' := #[vR a0, vI 0, vI 0, vI p3, vI p3, .unset, .unset]) rfl k) ?_
 show qG p e below _ (s₁.setTop (mkF m 5 #[vR a0, vI 0, vI 0, vI p3, vI p3, .unset, .unset] []))
 refine qb (fun _ k => XS.iloadN X0.here hx rfl (y 4 rfl) rfl k) ?_
 refine qb (fun _ k => XS.iconst X0.here hx rfl (y 5 rfl) k) ?_
 refine qb (fun _ k => XS.icmpYes X0.here hx rfl (pc0 := 7) (pc' := 68) rfl (y 6 rfl) rfl (flt (by decide : ¬ ((1 : Int32) < (0 : Int32)))).2.2.2 (by decide) (by decide) k) ?_
 show qG p e below _ (s₁.setTop (mkF m 68 #[vR a0, vI 0, vI 0, vI p3, vI p3, .unset, .unset] []))
 refine qb (fun _ k => XS.aconstNull X0.here hx rfl (y 7 rfl) k) ?_
 refine qb (fun _ k => XS.aloadN X0.here hx rfl (y 8 rfl) rfl rfl k) ?_
 refine qb (fun _ k => XS.iconst X0.here hx rfl (y 9 rfl) k) ?_
 refine qb (fun _ k => XS.iloadN X0.here hx rfl (y 10 rfl) rfl k) ?_
 refine qb (fun _ k => XS.iloadN X0.here hx rfl (y 11 rfl) rfl k) ?_
 obtain ⟨_, T1, Lc1, X1, hQ1, st1⟩ := own_cS X0 hx hZ hown hml (rmdp2 l Z A0 hw [] k_a0 fn_a0 p3 a0 h0 n0 Z0 P_E_a0 P_V_a0 hPq g_a0) (hwd 206 rfl) (hwd 207 rfl) (hwd 204 rfl) (hwd 208 rfl) (by decide) pd_206 e0 (g := (mkF m 73 #[vR a0, vI 0, vI 0, vI p3, vI p3, .unset, .unset] [(.int p3), (.int 0), (.int 0), (.ref a0), .null])) (rest := []) rfl rfl rfl rfl (y 12 rfl) rfl
 obtain ⟨b2, rfl, Nq1, Kq1, F3, F4, hp5⟩ := hQ1
 have N1 := Fr.app N0 Nq1
 have K1 : Keep h0 T1.heap [a0] := (Keep.refl h0 [a0]).trans Kq1 ((allS (Or.inl (List.mem_of_getElem? (i := 0) rfl)) all0))
 have Z1 := ql Z0 Kq1.1
 refine qb st1 ?_
 show qG p e below _ (T1.setTop (mkF m 76 #[vR a0, vI 0, vI 0, vI p3, vI p3, .unset, .unset] []))
 exact own_ret0 X1 hx hrt (y 13 rfl) hlk rfl ⟨b2, rfl, N1, K1, F3, F4, (ob_dp1_64 p3 hPq hp5)⟩ (by decide) (by decide)
theorem pd_202 : parseMethodDescriptor "([IIII)V" = some ⟨[(.array .int), .int, .int, .int], none⟩ := by decide +kernel
theorem d24 : own_ds jdk_65_method_2_code [(0, .aload_n 0, 1), (1, .iconst 0, 1), (2, .iconst 0, 1), (3, .aload_n 0, 1), (4, .arraylength, 1), (5, .invokestatic 7, 3), (8, .return_, 1)] = true := by decide +kernel
theorem ef_srt (m : MethodId) (a0 : Addr) : entryFrame m #[(.ref a0)] 1 = mkF m 0 #[vR a0] [] := rfl
theorem ob_srt_65 (Nc : Int32) (hPq : (Nc).toNatClampNeg ≤ 5) (hp6 : True) : True := by
  trivial
def Qsrt (Z : State) (k_a0 : ClassId) (fn_a0 : Nat → Int32) (Nc : Int32) (a0 : Addr) (h0 : Heap) (n0 : Nat) (v : Option Value) (h : Heap) (L : List Loc) : Prop := ∃ (gg5001 : Nat → Int32), v = none ∧ Fr n0 L ∧ Keep h0 h [a0] ∧ Exa Z h a0 "[I" ∧ qA Z h a0 k_a0 .int Nc (fun i => .int (gg5001 i)) ∧ (True)
theorem rmsrt (l : Launch) (Z : State) (A0 : Array Value) (hw : ∀ d ∈ tables_1, d.before A0 Z = true) (ws : List Jvm.Cond) (k_a0 : ClassId) (fn_a0 : Nat → Int32) (Nc : Int32) (a0 : Addr) (h0 : Heap) (n0 : Nat) (Z0 : n0 ≤ h0.size) (P_E_a0 : Exa Z h0 a0 "[I") (P_V_a0 : qA Z h0 a0 k_a0 .int Nc (fun i => .int (fn_a0 i))) (hPq : (Nc).toNatClampNeg ≤ 5) (g_a0 : n0 ≤ a0) :
  qM l Z (⟨"java/util/Arrays", "sort", "([I)V"⟩ : MethodName) jdk_65_method_2_code 1 none ws ({ frames := 3, cells := 0, slots := 0, locals := 67 } : Room) #[(.ref a0)] h0 (Qsrt Z k_a0 fn_a0 Nc a0 h0 n0) 0 0 := qe d24 (plainFor_of_name pn_cpo) (fun m => ef_srt m a0) fun p e s m below meth c s₁ hx y hml hlk hown hnm X0 e0 hZ hrt => by
 have hwd := qw hw
 have N0 := Fr.nil n0
 show qG p e below _ (s₁.setTop (mkF m 0 #[vR a0] []))
 refine qb (fun _ k => XS.aloadN X0.here hx rfl (y 0 rfl) rfl rfl k) ?_
 refine qb (fun _ k => XS.iconst X0.here hx rfl (y 1 rfl) k) ?_
 refine qb (fun _ k => XS.iconst X0.here hx rfl (y 2 rfl) k) ?_
 refine qb (fun _ k => XS.aloadN X0.here hx rfl (y 3 rfl) rfl rfl k) ?_
 obtain ⟨cl1, Ar1, qq1, S1, M1, H1, G1⟩ := id P_V_a0
 refine qb (fun t k => X0.arraylength hx (by rw [e0]; exact Ar1.1) (State.isArrayOf_alike hZ.alike Ar1.2.1) (g := (mkF m 4 #[vR a0] [(.ref a0), (.int 0), (.int 0), (.ref a0)])) rfl rfl (y 4 rfl) _ k) ?_
 rw [len_of S1 M1]
 show qG p e below _ (s₁.setTop (mkF m 5 #[vR a0] [(.int Nc), (.int 0), (.int 0), (.ref a0)]))
 obtain ⟨_, T2, Lc2, X2, hQ2, st2⟩ := own_cS X0 hx hZ hown hml (rmdp1 l Z A0 hw [] k_a0 fn_a0 Nc a0 h0 n0 Z0 P_E_a0 P_V_a0 hPq g_a0) (hwd 202 rfl) (hwd 203 rfl) (hwd 204 rfl) (hwd 205 rfl) (by decide) pd_202 e0 (g := (mkF m 5 #[vR a0] [(.int Nc), (.int 0), (.int 0), (.ref a0)])) (rest := []) rfl rfl rfl rfl (y 5 rfl) rfl
 obtain ⟨b3, rfl, Nq2, Kq2, F4, F5, hp6⟩ := hQ2
 have N2 := Fr.app N0 Nq2
 have K2 : Keep h0 T2.heap [a0] := (Keep.refl h0 [a0]).trans Kq2 ((allS (Or.inl (List.mem_of_getElem? (i := 0) rfl)) all0))
 have Z2 := ql Z0 Kq2.1
 refine qb st2 ?_
 show qG p e below _ (T2.setTop (mkF m 8 #[vR a0] []))
 exact own_ret0 X2 hx hrt (y 6 rfl) hlk rfl ⟨b3, rfl, N2, K2, F4, F5, (ob_srt_65 Nc hPq hp6)⟩ (by decide) (by decide)
theorem pd_271 : parseMethodDescriptor "()Ljava/lang/String;" = some ⟨[], some (.object "java/lang/String")⟩ := by decide +kernel
theorem pd_276 : parseMethodDescriptor "(I)Ljava/lang/Integer;" = some ⟨[.int], some (.object "java/lang/Integer")⟩ := by decide +kernel
theorem pd_283 : parseMethodDescriptor "(Ljava/lang/Object;Ljava/lang/Object;)Ljava/lang/Object;" = some ⟨[(.object "java/lang/Object"), (.object "java/lang/Object")], some (.object "java/lang/Object")⟩ := by decide +kernel
theorem pd_118 : parseMethodDescriptor "()Ljava/util/Collection;" = some ⟨[], some (.object "java/util/Collection")⟩ := by decide +kernel
theorem pd_140 : parseMethodDescriptor "()Ljava/util/Iterator;" = some ⟨[], some (.object "java/util/Iterator")⟩ := by decide +kernel
theorem pd_186 : parseMethodDescriptor "([II)[I" = some ⟨[(.array .int), .int], some (.array .int)⟩ := by decide +kernel
theorem pd_199 : parseMethodDescriptor "([I)V" = some ⟨[(.array .int)], none⟩ := by decide +kernel
theorem pd_190 : parseMethodDescriptor "()Ljava/lang/Object;" = some ⟨[], some (.object "java/lang/Object")⟩ := by decide +kernel
theorem d14 : own_ds prog_4_method_1_code [(0, .aload_n 0, 1), (1, .invokespecial 1, 3), (4, .aload_n 0, 1), (5, .aload_n 1, 1), (6, .invokeinterface 7 1, 5), (11, .newarray .int, 2), (13, .putfield 13, 3), (16, .iconst 0, 1), (17, .istore_n 3, 1), (18, .iload_n 3, 1), (19, .aload_n 0, 1), (20, .getfield 13, 3), (23, .arraylength, 1), (24, .if_icmp .ge 44, 3), (27, .aload_n 0, 1), (28, .getfield 13, 3), (31, .iload_n 3, 1), (32, .aload_n 2, 1), (33, .aload_n 1, 1), (34, .iload_n 3, 1), (35, .invokeinterface 19 2, 5), (40, .checkcast 23, 3), (43, .invokevirtual 25, 3), (46, .iconst 0, 1), (47, .invokestatic 29, 3), (50, .invokeinterface 35 3, 5), (55, .checkcast 30, 3), (58, .invokevirtual 41, 3), (61, .iastore, 1), (62, .iinc 3 1, 3), (65, .goto (-47), 3), (68, .iconst 0, 1), (69, .istore_n 3, 1), (70, .aload_n 2, 1), (71, .invokeinterface 44 1, 5), (76, .newarray .int, 2), (78, .astore 4, 2), (80, .aload_n 2, 1), (81, .invokeinterface 45 1, 5), (86, .invokeinterface 49 1, 5), (91, .astore 5, 2), (93, .aload 5, 2), (95, .invokeinterface 55 1, 5), (100, .ifCond .eq 36, 3), (103, .aload 5, 2), (105, .invokeinterface 61 1, 5), (110, .checkcast 30, 3), (113, .invokevirtual 41, 3), (116, .istore 6, 2), (118, .iload 6, 2), (120, .iconst 1, 1), (121, .if_icmp .lt 12, 3), (124, .aload 4, 2), (126, .iload_n 3, 1), (127, .iload 6, 2), (129, .iastore, 1), (130, .iinc 3 1, 3), (133, .goto (-40), 3), (136, .aload 4, 2), (138, .iload_n 3, 1), (139, .invokestatic 65, 3), (142, .astore 5, 2), (144, .aload 5, 2), (146, .invokestatic 71, 3), (149, .aload_n 0, 1), (150, .iload_n 3, 1), (151, .newarray .int, 2), (153, .putfield 75, 3), (156, .iconst 0, 1), (157, .istore 6, 2), (159, .iload 6, 2), (161, .iload_n 3, 1), (162, .if_icmp .ge 25, 3), (165, .aload_n 0, 1), (166, .getfield 75, 3), (169, .iload 6, 2), (171, .aload 5, 2), (173, .iload_n 3, 1), (174, .iconst 1, 1), (175, .isub, 1), (176, .iload 6, 2), (178, .isub, 1), (179, .iaload, 1), (180, .iastore, 1), (181, .iinc 6 1, 3), (184, .goto (-25), 3), (187, .return_, 1)] = true := by decide +kernel
theorem pn_jri : plainName "com/example/libacross/libacross/eval/JudgedRanking" = true := by first | (simp [plainName, overriddenIn]; done) | decide +kernel
theorem ef_jri (m : MethodId) (a0 a1 a2 : Addr) : entryFrame m #[(.ref a0), (.ref a1), (.ref a2)] 7 = mkF m 0 #[vR a0, vR a1, vR a2, .unset, .unset, .unset, .unset] [] := by first | (simp [entryFrame, mkF, argsToLocals, Value.category]; done) | rfl
theorem ob_jri_66 (Nn f_CS : Int32) (hn0 : ¬ (Nn < (0 : Int32))) (hn5 : Nn < (5 : Int32)) (hn_CS : ¬ (f_CS = (0 : Int32))) : ¬ Nn < 0 := by
  simp only [Int32.lt_iff_toInt_lt, Int32.toNatClampNeg, own_l0, own_l1, own_l5, own_l10] at *
  omega
theorem ob_jri_67 (Nn f_CS : Int32) (hn0 : ¬ (Nn < (0 : Int32))) (hn5 : Nn < (5 : Int32)) (hn_CS : ¬ (f_CS = (0 : Int32))) : (Nn).toNatClampNeg ≤ 4 := by
  simp only [Int32.lt_iff_toInt_lt, Int32.toNatClampNeg, own_l0, own_l1, own_l5, own_l10] at *
  omega
theorem ob_jri_68 (Nn : Int32) (Cc : Nat → Prop) (Xx : Nat → Int32) (f_CS z17 : Int32) (gg18 : Nat → Int32) (hn0 : ¬ (Nn < (0 : Int32))) (hn5 : Nn < (5 : Int32)) (hn_CS : ¬ (f_CS = (0 : Int32))) (hi61 : (¬ (z17 < (0 : Int32))) ∧ (z17).toNatClampNeg ≤ (Nn).toNatClampNeg ∧ own_G Cc Xx gg18 (z17).toNatClampNeg) (c65 : z17 < Nn) : ¬ (z17 < (0 : Int32)) := by
  simp only [Int32.lt_iff_toInt_lt, Int32.toNatClampNeg, own_l0, own_l1, own_l5, own_l10] at *
  omega
theorem ob_jri_69 (Nn : Int32) (Cc : Nat → Prop) (Xx : Nat → Int32) (f_CS z17 : Int32) (gg18 : Nat → Int32) (hn0 : ¬ (Nn < (0 : Int32))) (hn5 : Nn < (5 : Int32)) (hn_CS : ¬ (f_CS = (0 : Int32))) (hi61 : (¬ (z17 < (0 : Int32))) ∧ (z17).toNatClampNeg ≤ (Nn).toNatClampNeg ∧ own_G Cc Xx gg18 (z17).toNatClampNeg) (c65 : z17 < Nn) : (¬ z17 < 0) ∧ z17 < (10 : Int32) := by
  simp only [Int32.lt_iff_toInt_lt, Int32.toNatClampNeg, own_l0, own_l1, own_l5, own_l10] at *
  omega
theorem ob_jri_70 (Nn : Int32) (key0 key1 : Addr) (key2 key3 key4 : Addr) (Cc : Nat → Prop) (Xx : Nat → Int32) (f_CS z17 : Int32) (gg18 : Nat → Int32) (b69 : Addr) (hn0 : ¬ (Nn < (0 : Int32))) (hn5 : Nn < (5 : Int32)) (hn_CS : ¬ (f_CS = (0 : Int32))) (hi61 : (¬ (z17 < (0 : Int32))) ∧ (z17).toNatClampNeg ≤ (Nn).toNatClampNeg ∧ own_G Cc Xx gg18 (z17).toNatClampNeg) (c65 : z17 < Nn) (hp72 : b69 = (own_K key0 key1 key2 key3 key4) (z17).toNatClampNeg) (hk75 : (own_K key0 key1 key2 key3 key4) (z17).toNatClampNeg = b69) : (z17).toNatClampNeg < 5 := by
  simp only [Int32.lt_iff_toInt_lt, Int32.toNatClampNeg, own_l0, own_l1, own_l5, own_l10] at *
  omega
theorem ob_jri_71 (Nn : Int32) (key0 key1 : Addr) (key2 key3 key4 : Addr) (Cc : Nat → Prop) (Xx : Nat → Int32) (f_CS z17 : Int32) (gg18 : Nat → Int32) (b69 : Addr) (o83 : Int32) (hn0 : ¬ (Nn < (0 : Int32))) (hn5 : Nn < (5 : Int32)) (hn_CS : ¬ (f_CS = (0 : Int32))) (hi61 : (¬ (z17 < (0 : Int32))) ∧ (z17).toNatClampNeg ≤ (Nn).toNatClampNeg ∧ own_G Cc Xx gg18 (z17).toNatClampNeg) (c65 : z17 < Nn) (hp72 : b69 = (own_K key0 key1 key2 key3 key4) (z17).toNatClampNeg) (hk75 : (own_K key0 key1 key2 key3 key4) (z17).toNatClampNeg = b69) (hl75 : (z17).toNatClampNeg < 5) (hp80 : (True)) (hp88 : (Cc (z17).toNatClampNeg → o83 = Xx (z17).toNatClampNeg) ∧ (¬ Cc (z17).toNatClampNeg → o83 = (0 : Int32))) : (¬ z17 < 0) ∧ z17 < Nn := by
  exact own_jd1 (by assumption) (by assumption)
theorem ob_jri_72 (Nn : Int32) (key0 key1 : Addr) (key2 key3 key4 : Addr) (Cc : Nat → Prop) (Xx : Nat → Int32) (f_CS z17 : Int32) (gg18 : Nat → Int32) (b69 : Addr) (o83 : Int32) (hn0 : ¬ (Nn < (0 : Int32))) (hn5 : Nn < (5 : Int32)) (hn_CS : ¬ (f_CS = (0 : Int32))) (hi61 : (¬ (z17 < (0 : Int32))) ∧ (z17).toNatClampNeg ≤ (Nn).toNatClampNeg ∧ own_G Cc Xx gg18 (z17).toNatClampNeg) (c65 : z17 < Nn) (hp72 : b69 = (own_K key0 key1 key2 key3 key4) (z17).toNatClampNeg) (hk75 : (own_K key0 key1 key2 key3 key4) (z17).toNatClampNeg = b69) (hl75 : (z17).toNatClampNeg < 5) (hp80 : (True)) (hp88 : (Cc (z17).toNatClampNeg → o83 = Xx (z17).toNatClampNeg) ∧ (¬ Cc (z17).toNatClampNeg → o83 = (0 : Int32))) : (Nn).toNatClampNeg - ((z17 + (1 : Int32))).toNatClampNeg < (Nn).toNatClampNeg - (z17).toNatClampNeg := by
  exact own_jr2 (by assumption) (by assumption)
theorem ob_jri_73 (Nn : Int32) (key0 key1 : Addr) (key2 key3 key4 : Addr) (Cc : Nat → Prop) (Xx : Nat → Int32) (f_CS z17 : Int32) (gg18 : Nat → Int32) (b69 : Addr) (o83 : Int32) (hn0 : ¬ (Nn < (0 : Int32))) (hn5 : Nn < (5 : Int32)) (hn_CS : ¬ (f_CS = (0 : Int32))) (hi61 : (¬ (z17 < (0 : Int32))) ∧ (z17).toNatClampNeg ≤ (Nn).toNatClampNeg ∧ own_G Cc Xx gg18 (z17).toNatClampNeg) (c65 : z17 < Nn) (hp72 : b69 = (own_K key0 key1 key2 key3 key4) (z17).toNatClampNeg) (hk75 : (own_K key0 key1 key2 key3 key4) (z17).toNatClampNeg = b69) (hl75 : (z17).toNatClampNeg < 5) (hp80 : (True)) (hp88 : (Cc (z17).toNatClampNeg → o83 = Xx (z17).toNatClampNeg) ∧ (¬ Cc (z17).toNatClampNeg → o83 = (0 : Int32))) : (¬ ((z17 + (1 : Int32)) < (0 : Int32))) ∧ ((z17 + (1 : Int32))).toNatClampNeg ≤ (Nn).toNatClampNeg ∧ own_G Cc Xx (qu gg18 (z17).toNatClampNeg o83) ((z17 + (1 : Int32))).toNatClampNeg := by
  exact own_jr1 (by assumption) (by assumption) (by assumption)
theorem ob_jri_74 (Nn : Int32) (Cc : Nat → Prop) (Xx : Nat → Int32) (f_CS z17 : Int32) (gg18 : Nat → Int32) (Sz120 : Int32) (Tw120 : Value) (hn0 : ¬ (Nn < (0 : Int32))) (hn5 : Nn < (5 : Int32)) (hn_CS : ¬ (f_CS = (0 : Int32))) (hi61 : (¬ (z17 < (0 : Int32))) ∧ (z17).toNatClampNeg ≤ (Nn).toNatClampNeg ∧ own_G Cc Xx gg18 (z17).toNatClampNeg) (c65 : ¬ (z17 < Nn)) (hr120 : Tw120.isRef = true) (hz120 : ¬ (Sz120 < (0 : Int32))) (hz120' : (Sz120).toNatClampNeg ≤ 5) : ¬ Sz120 < 0 := by
  simp only [Int32.lt_iff_toInt_lt, Int32.toNatClampNeg, own_l0, own_l1, own_l5, own_l10] at *
  omega
theorem ob_jri_75 (Nn : Int32) (Cc : Nat → Prop) (Xx : Nat → Int32) (f_CS z17 : Int32) (gg18 : Nat → Int32) (Sz120 : Int32) (Tw120 : Value) (hn0 : ¬ (Nn < (0 : Int32))) (hn5 : Nn < (5 : Int32)) (hn_CS : ¬ (f_CS = (0 : Int32))) (hi61 : (¬ (z17 < (0 : Int32))) ∧ (z17).toNatClampNeg ≤ (Nn).toNatClampNeg ∧ own_G Cc Xx gg18 (z17).toNatClampNeg) (c65 : ¬ (z17 < Nn)) (hr120 : Tw120.isRef = true) (hz120 : ¬ (Sz120 < (0 : Int32))) (hz120' : (Sz120).toNatClampNeg ≤ 5) : (Sz120).toNatClampNeg ≤ 5 := by
  simp only [Int32.lt_iff_toInt_lt, Int32.toNatClampNeg, own_l0, own_l1, own_l5, own_l10] at *
  omega
theorem ob_jri_76 (Nn : Int32) (Cc : Nat → Prop) (Xx : Nat → Int32) (f_CS z17 : Int32) (gg18 : Nat → Int32) (Sz120 : Int32) (Tw120 : Value) (jj152 : Nat) (z163 : Int32) (gh165 : Nat) (hn0 : ¬ (Nn < (0 : Int32))) (hn5 : Nn < (5 : Int32)) (hn_CS : ¬ (f_CS = (0 : Int32))) (hi61 : (¬ (z17 < (0 : Int32))) ∧ (z17).toNatClampNeg ≤ (Nn).toNatClampNeg ∧ own_G Cc Xx gg18 (z17).toNatClampNeg) (c65 : ¬ (z17 < Nn)) (hr120 : Tw120.isRef = true) (hz120 : ¬ (Sz120 < (0 : Int32))) (hz120' : (Sz120).toNatClampNeg ≤ 5) (hj152' : jj152 ≤ 17) (hi218 : (¬ (z163 < (0 : Int32))) ∧ (z163).toNatClampNeg ≤ (Sz120).toNatClampNeg ∧ gh165 ≤ 17) : ¬ z163 < 0 := by
  simp only [Int32.lt_iff_toInt_lt, Int32.toNatClampNeg, own_l0, own_l1, own_l5, own_l10] at *
  omega
theorem ob_jri_77 (Nn : Int32) (Cc : Nat → Prop) (Xx : Nat → Int32) (f_CS z17 : Int32) (gg18 : Nat → Int32) (Sz120 : Int32) (Tw120 : Value) (jj152 : Nat) (z163 : Int32) (gh165 : Nat) (hn0 : ¬ (Nn < (0 : Int32))) (hn5 : Nn < (5 : Int32)) (hn_CS : ¬ (f_CS = (0 : Int32))) (hi61 : (¬ (z17 < (0 : Int32))) ∧ (z17).toNatClampNeg ≤ (Nn).toNatClampNeg ∧ own_G Cc Xx gg18 (z17).toNatClampNeg) (c65 : ¬ (z17 < Nn)) (hr120 : Tw120.isRef = true) (hz120 : ¬ (Sz120 < (0 : Int32))) (hz120' : (Sz120).toNatClampNeg ≤ 5) (hj152' : jj152 ≤ 17) (hi218 : (¬ (z163 < (0 : Int32))) ∧ (z163).toNatClampNeg ≤ (Sz120).toNatClampNeg ∧ gh165 ≤ 17) : (z163).toNatClampNeg ≤ (Sz120).toNatClampNeg := by
  simp only [Int32.lt_iff_toInt_lt, Int32.toNatClampNeg, own_l0, own_l1, own_l5, own_l10] at *
  omega
theorem ob_jri_78 (Nn : Int32) (Cc : Nat → Prop) (Xx : Nat → Int32) (f_CS z17 : Int32) (gg18 : Nat → Int32) (Sz120 : Int32) (Tw120 : Value) (jj152 : Nat) (z163 : Int32) (gh165 : Nat) (o225 : Int32) (hn0 : ¬ (Nn < (0 : Int32))) (hn5 : Nn < (5 : Int32)) (hn_CS : ¬ (f_CS = (0 : Int32))) (hi61 : (¬ (z17 < (0 : Int32))) ∧ (z17).toNatClampNeg ≤ (Nn).toNatClampNeg ∧ own_G Cc Xx gg18 (z17).toNatClampNeg) (c65 : ¬ (z17 < Nn)) (hr120 : Tw120.isRef = true) (hz120 : ¬ (Sz120 < (0 : Int32))) (hz120' : (Sz120).toNatClampNeg ≤ 5) (hj152' : jj152 ≤ 17) (hi218 : (¬ (z163 < (0 : Int32))) ∧ (z163).toNatClampNeg ≤ (Sz120).toNatClampNeg ∧ gh165 ≤ 17) (hp231 : o225 = z163) : (z163).toNatClampNeg ≤ 5 := by
  simp only [Int32.lt_iff_toInt_lt, Int32.toNatClampNeg, own_l0, own_l1, own_l5, own_l10] at *
  omega
theorem ob_jri_79 (Nn : Int32) (Cc : Nat → Prop) (Xx : Nat → Int32) (f_CS z17 : Int32) (gg18 : Nat → Int32) (Sz120 : Int32) (Tw120 : Value) (jj152 : Nat) (z163 : Int32) (gh165 : Nat) (o225 : Int32) (hn0 : ¬ (Nn < (0 : Int32))) (hn5 : Nn < (5 : Int32)) (hn_CS : ¬ (f_CS = (0 : Int32))) (hi61 : (¬ (z17 < (0 : Int32))) ∧ (z17).toNatClampNeg ≤ (Nn).toNatClampNeg ∧ own_G Cc Xx gg18 (z17).toNatClampNeg) (c65 : ¬ (z17 < Nn)) (hr120 : Tw120.isRef = true) (hz120 : ¬ (Sz120 < (0 : Int32))) (hz120' : (Sz120).toNatClampNeg ≤ 5) (hj152' : jj152 ≤ 17) (hi218 : (¬ (z163 < (0 : Int32))) ∧ (z163).toNatClampNeg ≤ (Sz120).toNatClampNeg ∧ gh165 ≤ 17) (hp231 : o225 = z163) (hp237 : True) : ¬ z163 < 0 := by
  simp only [Int32.lt_iff_toInt_lt, Int32.toNatClampNeg, own_l0, own_l1, own_l5, own_l10] at *
  omega
theorem ob_jri_80 (Nn : Int32) (Cc : Nat → Prop) (Xx : Nat → Int32) (f_CS z17 : Int32) (gg18 : Nat → Int32) (Sz120 : Int32) (Tw120 : Value) (jj152 : Nat) (z163 : Int32) (gh165 : Nat) (o225 : Int32) (hn0 : ¬ (Nn < (0 : Int32))) (hn5 : Nn < (5 : Int32)) (hn_CS : ¬ (f_CS = (0 : Int32))) (hi61 : (¬ (z17 < (0 : Int32))) ∧ (z17).toNatClampNeg ≤ (Nn).toNatClampNeg ∧ own_G Cc Xx gg18 (z17).toNatClampNeg) (c65 : ¬ (z17 < Nn)) (hr120 : Tw120.isRef = true) (hz120 : ¬ (Sz120 < (0 : Int32))) (hz120' : (Sz120).toNatClampNeg ≤ 5) (hj152' : jj152 ≤ 17) (hi218 : (¬ (z163 < (0 : Int32))) ∧ (z163).toNatClampNeg ≤ (Sz120).toNatClampNeg ∧ gh165 ≤ 17) (hp231 : o225 = z163) (hp237 : True) : (z163).toNatClampNeg ≤ 5 := by
  simp only [Int32.lt_iff_toInt_lt, Int32.toNatClampNeg, own_l0, own_l1, own_l5, own_l10] at *
  omega
theorem ob_jri_81 (Nn : Int32) (Cc : Nat → Prop) (Xx : Nat → Int32) (f_CS z17 : Int32) (gg18 : Nat → Int32) (Sz120 : Int32) (Tw120 : Value) (jj152 : Nat) (z163 : Int32) (gh165 : Nat) (o225 z254 : Int32) (hn0 : ¬ (Nn < (0 : Int32))) (hn5 : Nn < (5 : Int32)) (hn_CS : ¬ (f_CS = (0 : Int32))) (hi61 : (¬ (z17 < (0 : Int32))) ∧ (z17).toNatClampNeg ≤ (Nn).toNatClampNeg ∧ own_G Cc Xx gg18 (z17).toNatClampNeg) (c65 : ¬ (z17 < Nn)) (hr120 : Tw120.isRef = true) (hz120 : ¬ (Sz120 < (0 : Int32))) (hz120' : (Sz120).toNatClampNeg ≤ 5) (hj152' : jj152 ≤ 17) (hi218 : (¬ (z163 < (0 : Int32))) ∧ (z163).toNatClampNeg ≤ (Sz120).toNatClampNeg ∧ gh165 ≤ 17) (hp231 : o225 = z163) (hp237 : True) (hi302 : ¬ (z254 < (0 : Int32))) (c304 : z254 < z163) : (¬ ((z163 - (1 : Int32)) - z254) < 0) ∧ ((z163 - (1 : Int32)) - z254) < z163 := by
  exact own_jd3 (by assumption) (by assumption)
theorem ob_jri_82 (Nn : Int32) (Cc : Nat → Prop) (Xx : Nat → Int32) (f_CS z17 : Int32) (gg18 : Nat → Int32) (Sz120 : Int32) (Tw120 : Value) (jj152 : Nat) (z163 : Int32) (gh165 : Nat) (o225 z254 : Int32) (hn0 : ¬ (Nn < (0 : Int32))) (hn5 : Nn < (5 : Int32)) (hn_CS : ¬ (f_CS = (0 : Int32))) (hi61 : (¬ (z17 < (0 : Int32))) ∧ (z17).toNatClampNeg ≤ (Nn).toNatClampNeg ∧ own_G Cc Xx gg18 (z17).toNatClampNeg) (c65 : ¬ (z17 < Nn)) (hr120 : Tw120.isRef = true) (hz120 : ¬ (Sz120 < (0 : Int32))) (hz120' : (Sz120).toNatClampNeg ≤ 5) (hj152' : jj152 ≤ 17) (hi218 : (¬ (z163 < (0 : Int32))) ∧ (z163).toNatClampNeg ≤ (Sz120).toNatClampNeg ∧ gh165 ≤ 17) (hp231 : o225 = z163) (hp237 : True) (hi302 : ¬ (z254 < (0 : Int32))) (c304 : z254 < z163) : (¬ z254 < 0) ∧ z254 < z163 := by
  exact ⟨by assumption, by assumption⟩
theorem ob_jri_83 (Nn : Int32) (Cc : Nat → Prop) (Xx : Nat → Int32) (f_CS z17 : Int32) (gg18 : Nat → Int32) (Sz120 : Int32) (Tw120 : Value) (jj152 : Nat) (z163 : Int32) (gh165 : Nat) (o225 z254 : Int32) (hn0 : ¬ (Nn < (0 : Int32))) (hn5 : Nn < (5 : Int32)) (hn_CS : ¬ (f_CS = (0 : Int32))) (hi61 : (¬ (z17 < (0 : Int32))) ∧ (z17).toNatClampNeg ≤ (Nn).toNatClampNeg ∧ own_G Cc Xx gg18 (z17).toNatClampNeg) (c65 : ¬ (z17 < Nn)) (hr120 : Tw120.isRef = true) (hz120 : ¬ (Sz120 < (0 : Int32))) (hz120' : (Sz120).toNatClampNeg ≤ 5) (hj152' : jj152 ≤ 17) (hi218 : (¬ (z163 < (0 : Int32))) ∧ (z163).toNatClampNeg ≤ (Sz120).toNatClampNeg ∧ gh165 ≤ 17) (hp231 : o225 = z163) (hp237 : True) (hi302 : ¬ (z254 < (0 : Int32))) (c304 : z254 < z163) : (z163).toNatClampNeg - ((z254 + (1 : Int32))).toNatClampNeg < (z163).toNatClampNeg - (z254).toNatClampNeg := by
  exact own_jc2 (by assumption) (by assumption)
theorem ob_jri_84 (Nn : Int32) (Cc : Nat → Prop) (Xx : Nat → Int32) (f_CS z17 : Int32) (gg18 : Nat → Int32) (Sz120 : Int32) (Tw120 : Value) (jj152 : Nat) (z163 : Int32) (gh165 : Nat) (o225 z254 : Int32) (hn0 : ¬ (Nn < (0 : Int32))) (hn5 : Nn < (5 : Int32)) (hn_CS : ¬ (f_CS = (0 : Int32))) (hi61 : (¬ (z17 < (0 : Int32))) ∧ (z17).toNatClampNeg ≤ (Nn).toNatClampNeg ∧ own_G Cc Xx gg18 (z17).toNatClampNeg) (c65 : ¬ (z17 < Nn)) (hr120 : Tw120.isRef = true) (hz120 : ¬ (Sz120 < (0 : Int32))) (hz120' : (Sz120).toNatClampNeg ≤ 5) (hj152' : jj152 ≤ 17) (hi218 : (¬ (z163 < (0 : Int32))) ∧ (z163).toNatClampNeg ≤ (Sz120).toNatClampNeg ∧ gh165 ≤ 17) (hp231 : o225 = z163) (hp237 : True) (hi302 : ¬ (z254 < (0 : Int32))) (c304 : z254 < z163) : ¬ ((z254 + (1 : Int32)) < (0 : Int32)) := by
  exact own_jc1 (by assumption) (by assumption)
theorem ob_jri_85 (Nn : Int32) (Cc : Nat → Prop) (Xx : Nat → Int32) (f_CS z17 : Int32) (gg18 : Nat → Int32) (Sz120 : Int32) (Tw120 : Value) (jj152 : Nat) (z163 : Int32) (gh165 : Nat) (o225 z254 : Int32) (hn0 : ¬ (Nn < (0 : Int32))) (hn5 : Nn < (5 : Int32)) (hn_CS : ¬ (f_CS = (0 : Int32))) (hi61 : (¬ (z17 < (0 : Int32))) ∧ (z17).toNatClampNeg ≤ (Nn).toNatClampNeg ∧ own_G Cc Xx gg18 (z17).toNatClampNeg) (c65 : ¬ (z17 < Nn)) (hr120 : Tw120.isRef = true) (hz120 : ¬ (Sz120 < (0 : Int32))) (hz120' : (Sz120).toNatClampNeg ≤ 5) (hj152' : jj152 ≤ 17) (hi218 : (¬ (z163 < (0 : Int32))) ∧ (z163).toNatClampNeg ≤ (Sz120).toNatClampNeg ∧ gh165 ≤ 17) (hp231 : o225 = z163) (hp237 : True) (hi302 : ¬ (z254 < (0 : Int32))) (c304 : ¬ (z254 < z163)) : own_G Cc Xx gg18 (Nn).toNatClampNeg := by
  exact own_Gx (by assumption) (by assumption)
theorem ob_jri_86 (Nn : Int32) (Cc : Nat → Prop) (Xx : Nat → Int32) (f_CS z17 : Int32) (gg18 : Nat → Int32) (Sz120 : Int32) (Tw120 : Value) (jj152 : Nat) (z163 : Int32) (gh165 : Nat) (o225 : Int32) (hn0 : ¬ (Nn < (0 : Int32))) (hn5 : Nn < (5 : Int32)) (hn_CS : ¬ (f_CS = (0 : Int32))) (hi61 : (¬ (z17 < (0 : Int32))) ∧ (z17).toNatClampNeg ≤ (Nn).toNatClampNeg ∧ own_G Cc Xx gg18 (z17).toNatClampNeg) (c65 : ¬ (z17 < Nn)) (hr120 : Tw120.isRef = true) (hz120 : ¬ (Sz120 < (0 : Int32))) (hz120' : (Sz120).toNatClampNeg ≤ 5) (hj152' : jj152 ≤ 17) (hi218 : (¬ (z163 < (0 : Int32))) ∧ (z163).toNatClampNeg ≤ (Sz120).toNatClampNeg ∧ gh165 ≤ 17) (hp231 : o225 = z163) (hp237 : True) : ¬ ((0 : Int32) < (0 : Int32)) := by
  decide
theorem ob_jri_87 (Nn : Int32) (Cc : Nat → Prop) (Xx : Nat → Int32) (f_CS z17 : Int32) (gg18 : Nat → Int32) (Sz120 : Int32) (Tw120 : Value) (jj152 : Nat) (z163 : Int32) (gh165 : Nat) (tt220 : Addr) (gt220 : Nat → Value) (ix220 xx220 : Int32) (jj340 : Nat) (hn0 : ¬ (Nn < (0 : Int32))) (hn5 : Nn < (5 : Int32)) (hn_CS : ¬ (f_CS = (0 : Int32))) (hi61 : (¬ (z17 < (0 : Int32))) ∧ (z17).toNatClampNeg ≤ (Nn).toNatClampNeg ∧ own_G Cc Xx gg18 (z17).toNatClampNeg) (c65 : ¬ (z17 < Nn)) (hr120 : Tw120.isRef = true) (hz120 : ¬ (Sz120 < (0 : Int32))) (hz120' : (Sz120).toNatClampNeg ≤ 5) (hj152' : jj152 ≤ 17) (hi218 : (¬ (z163 < (0 : Int32))) ∧ (z163).toNatClampNeg ≤ (Sz120).toNatClampNeg ∧ gh165 ≤ 17) (hT220 : Tw120 = .ref tt220) (q1220 : ¬ (ix220 < (0 : Int32))) (q2220 : (ix220).toNatClampNeg = gh165) (q3220 : gh165 ≤ 16) (q4220 : (z163).toInt + 1 ≤ (own_ct gt220 gh165 : Int)) (q5220 : (own_ct gt220 16 : Int) = Sz120.toInt) (hlt220 : z163 < Sz120) (c339 : xx220 < (1 : Int32)) (hj340 : gh165 < jj340) (hj340' : jj340 ≤ 17) : 20 - jj340 < 20 - gh165 := by
  simp only [Int32.lt_iff_toInt_lt, Int32.toNatClampNeg, own_l0, own_l1, own_l5, own_l10] at *
  omega
theorem ob_jri_88 (Nn : Int32) (Cc : Nat → Prop) (Xx : Nat → Int32) (f_CS z17 : Int32) (gg18 : Nat → Int32) (Sz120 : Int32) (Tw120 : Value) (jj152 : Nat) (z163 : Int32) (gh165 : Nat) (tt220 : Addr) (gt220 : Nat → Value) (ix220 xx220 : Int32) (jj340 : Nat) (hn0 : ¬ (Nn < (0 : Int32))) (hn5 : Nn < (5 : Int32)) (hn_CS : ¬ (f_CS = (0 : Int32))) (hi61 : (¬ (z17 < (0 : Int32))) ∧ (z17).toNatClampNeg ≤ (Nn).toNatClampNeg ∧ own_G Cc Xx gg18 (z17).toNatClampNeg) (c65 : ¬ (z17 < Nn)) (hr120 : Tw120.isRef = true) (hz120 : ¬ (Sz120 < (0 : Int32))) (hz120' : (Sz120).toNatClampNeg ≤ 5) (hj152' : jj152 ≤ 17) (hi218 : (¬ (z163 < (0 : Int32))) ∧ (z163).toNatClampNeg ≤ (Sz120).toNatClampNeg ∧ gh165 ≤ 17) (hT220 : Tw120 = .ref tt220) (q1220 : ¬ (ix220 < (0 : Int32))) (q2220 : (ix220).toNatClampNeg = gh165) (q3220 : gh165 ≤ 16) (q4220 : (z163).toInt + 1 ≤ (own_ct gt220 gh165 : Int)) (q5220 : (own_ct gt220 16 : Int) = Sz120.toInt) (hlt220 : z163 < Sz120) (c339 : xx220 < (1 : Int32)) (hj340 : gh165 < jj340) (hj340' : jj340 ≤ 17) : (¬ (z163 < (0 : Int32))) ∧ (z163).toNatClampNeg ≤ (Sz120).toNatClampNeg ∧ jj340 ≤ 17 := by
  exact own_jb2 (by assumption) (by assumption)
theorem ob_jri_89 (Nn : Int32) (Cc : Nat → Prop) (Xx : Nat → Int32) (f_CS z17 : Int32) (gg18 : Nat → Int32) (Sz120 : Int32) (Tw120 : Value) (jj152 : Nat) (z163 : Int32) (gh165 : Nat) (tt220 : Addr) (gt220 : Nat → Value) (ix220 xx220 : Int32) (hn0 : ¬ (Nn < (0 : Int32))) (hn5 : Nn < (5 : Int32)) (hn_CS : ¬ (f_CS = (0 : Int32))) (hi61 : (¬ (z17 < (0 : Int32))) ∧ (z17).toNatClampNeg ≤ (Nn).toNatClampNeg ∧ own_G Cc Xx gg18 (z17).toNatClampNeg) (c65 : ¬ (z17 < Nn)) (hr120 : Tw120.isRef = true) (hz120 : ¬ (Sz120 < (0 : Int32))) (hz120' : (Sz120).toNatClampNeg ≤ 5) (hj152' : jj152 ≤ 17) (hi218 : (¬ (z163 < (0 : Int32))) ∧ (z163).toNatClampNeg ≤ (Sz120).toNatClampNeg ∧ gh165 ≤ 17) (hT220 : Tw120 = .ref tt220) (q1220 : ¬ (ix220 < (0 : Int32))) (q2220 : (ix220).toNatClampNeg = gh165) (q3220 : gh165 ≤ 16) (q4220 : (z163).toInt + 1 ≤ (own_ct gt220 gh165 : Int)) (q5220 : (own_ct gt220 16 : Int) = Sz120.toInt) (hlt220 : z163 < Sz120) (c339 : ¬ (xx220 < (1 : Int32))) : (¬ z163 < 0) ∧ z163 < Sz120 := by
  exact own_jd2 (by assumption) (by assumption)
theorem ob_jri_90 (Nn : Int32) (Cc : Nat → Prop) (Xx : Nat → Int32) (f_CS z17 : Int32) (gg18 : Nat → Int32) (Sz120 : Int32) (Tw120 : Value) (jj152 : Nat) (z163 : Int32) (gh165 : Nat) (tt220 : Addr) (gt220 : Nat → Value) (ix220 xx220 : Int32) (jj372 : Nat) (hn0 : ¬ (Nn < (0 : Int32))) (hn5 : Nn < (5 : Int32)) (hn_CS : ¬ (f_CS = (0 : Int32))) (hi61 : (¬ (z17 < (0 : Int32))) ∧ (z17).toNatClampNeg ≤ (Nn).toNatClampNeg ∧ own_G Cc Xx gg18 (z17).toNatClampNeg) (c65 : ¬ (z17 < Nn)) (hr120 : Tw120.isRef = true) (hz120 : ¬ (Sz120 < (0 : Int32))) (hz120' : (Sz120).toNatClampNeg ≤ 5) (hj152' : jj152 ≤ 17) (hi218 : (¬ (z163 < (0 : Int32))) ∧ (z163).toNatClampNeg ≤ (Sz120).toNatClampNeg ∧ gh165 ≤ 17) (hT220 : Tw120 = .ref tt220) (q1220 : ¬ (ix220 < (0 : Int32))) (q2220 : (ix220).toNatClampNeg = gh165) (q3220 : gh165 ≤ 16) (q4220 : (z163).toInt + 1 ≤ (own_ct gt220 gh165 : Int)) (q5220 : (own_ct gt220 16 : Int) = Sz120.toInt) (hlt220 : z163 < Sz120) (c339 : ¬ (xx220 < (1 : Int32))) (hj372 : gh165 < jj372) (hj372' : jj372 ≤ 17) : 20 - jj372 < 20 - gh165 := by
  simp only [Int32.lt_iff_toInt_lt, Int32.toNatClampNeg, own_l0, own_l1, own_l5, own_l10] at *
  omega
theorem ob_jri_91 (Nn : Int32) (Cc : Nat → Prop) (Xx : Nat → Int32) (f_CS z17 : Int32) (gg18 : Nat → Int32) (Sz120 : Int32) (Tw120 : Value) (jj152 : Nat) (z163 : Int32) (gh165 : Nat) (tt220 : Addr) (gt220 : Nat → Value) (ix220 xx220 : Int32) (jj372 : Nat) (hn0 : ¬ (Nn < (0 : Int32))) (hn5 : Nn < (5 : Int32)) (hn_CS : ¬ (f_CS = (0 : Int32))) (hi61 : (¬ (z17 < (0 : Int32))) ∧ (z17).toNatClampNeg ≤ (Nn).toNatClampNeg ∧ own_G Cc Xx gg18 (z17).toNatClampNeg) (c65 : ¬ (z17 < Nn)) (hr120 : Tw120.isRef = true) (hz120 : ¬ (Sz120 < (0 : Int32))) (hz120' : (Sz120).toNatClampNeg ≤ 5) (hj152' : jj152 ≤ 17) (hi218 : (¬ (z163 < (0 : Int32))) ∧ (z163).toNatClampNeg ≤ (Sz120).toNatClampNeg ∧ gh165 ≤ 17) (hT220 : Tw120 = .ref tt220) (q1220 : ¬ (ix220 < (0 : Int32))) (q2220 : (ix220).toNatClampNeg = gh165) (q3220 : gh165 ≤ 16) (q4220 : (z163).toInt + 1 ≤ (own_ct gt220 gh165 : Int)) (q5220 : (own_ct gt220 16 : Int) = Sz120.toInt) (hlt220 : z163 < Sz120) (c339 : ¬ (xx220 < (1 : Int32))) (hj372 : gh165 < jj372) (hj372' : jj372 ≤ 17) : (¬ ((z163 + (1 : Int32)) < (0 : Int32))) ∧ ((z163 + (1 : Int32))).toNatClampNeg ≤ (Sz120).toNatClampNeg ∧ jj372 ≤ 17 := by
  exact own_jb1 (by assumption) (by assumption) (by assumption)
theorem ob_jri_92 (Nn : Int32) (Cc : Nat → Prop) (Xx : Nat → Int32) (f_CS z17 : Int32) (gg18 : Nat → Int32) (Sz120 : Int32) (Tw120 : Value) (jj152 : Nat) (hn0 : ¬ (Nn < (0 : Int32))) (hn5 : Nn < (5 : Int32)) (hn_CS : ¬ (f_CS = (0 : Int32))) (hi61 : (¬ (z17 < (0 : Int32))) ∧ (z17).toNatClampNeg ≤ (Nn).toNatClampNeg ∧ own_G Cc Xx gg18 (z17).toNatClampNeg) (c65 : ¬ (z17 < Nn)) (hr120 : Tw120.isRef = true) (hz120 : ¬ (Sz120 < (0 : Int32))) (hz120' : (Sz120).toNatClampNeg ≤ 5) (hj152' : jj152 ≤ 17) : (¬ ((0 : Int32) < (0 : Int32))) ∧ 0 ≤ (Sz120).toNatClampNeg ∧ jj152 ≤ 17 := by
  exact ⟨by decide, Nat.zero_le _, by assumption⟩
theorem ob_jri_93 (Nn : Int32) (Cc : Nat → Prop) (Xx : Nat → Int32) (f_CS : Int32) (hn0 : ¬ (Nn < (0 : Int32))) (hn5 : Nn < (5 : Int32)) (hn_CS : ¬ (f_CS = (0 : Int32))) : (¬ ((0 : Int32) < (0 : Int32))) ∧ 0 ≤ (Nn).toNatClampNeg ∧ own_G Cc Xx (fun _ => (0 : Int32)) 0 := by
  exact ⟨by decide, Nat.zero_le _, own_G0⟩
def Qjri (Z : State) (Nn : Int32) (key0 key1 : Addr) (key2 key3 key4 : Addr) (Cc : Nat → Prop) (Xx : Nat → Int32) (Lo : Nat) (f_CA : Addr) (k_CA : ClassId) (fn_CA : Nat → Value) (f_CS : Int32) (a0 a1 a2 : Addr) (f_a0_relevance f_a0_idealGains : Value) (h0 : Heap) (n0 : Nat) (v : Option Value) (h : Heap) (L : List Loc) : Prop := ∃ (r5001 : Addr) (kk5002 : ClassId) (gg5003 : Nat → Int32), v = none ∧ Fr n0 L ∧ Keep h0 h [key0, key1, key2, key3, key4, a0, a2] ∧ (n0 ≤ r5001) ∧ (h0.size ≤ r5001) ∧ Exa Z h a0 "com/example/libacross/libacross/eval/JudgedRanking" ∧ Fld Z h a0 "com/example/libacross/libacross/eval/JudgedRanking" "relevance" "[I" (.ref r5001) ∧ Exa Z h r5001 "[I" ∧ qA Z h r5001 kk5002 .int Nn (fun i => .int (gg5003 i)) ∧ (own_G Cc Xx gg5003 (Nn).toNatClampNeg)
theorem rmjri (l : Launch) (Z : State) (A0 : Array Value) (hw : ∀ d ∈ tables_1, d.before A0 Z = true) (ws : List Jvm.Cond) (Nn : Int32) (key0 key1 : Addr) (key2 key3 key4 : Addr) (Cc : Nat → Prop) (Xx : Nat → Int32) (Lo : Nat) (f_CA : Addr) (k_CA : ClassId) (fn_CA : Nat → Value) (f_CS : Int32) (a0 a1 a2 : Addr) (f_a0_relevance f_a0_idealGains : Value) (h0 : Heap) (n0 : Nat) (Z0 : n0 ≤ h0.size) (P_E_a0 : Exa Z h0 a0 "com/example/libacross/libacross/eval/JudgedRanking") (P_L : own_Al Z h0 a1 Nn (own_K key0 key1 key2 key3 key4)) (P_E_a1 : Exa Z h0 a1 "java/util/ArrayList") (P_F_a1_size : Fld Z h0 a1 cAL "size" "I" (.int Nn)) (hn0 : ¬ (Nn < (0 : Int32))) (hn5 : Nn < (5 : Int32)) (P_E_a2 : Exa Z h0 a2 "java/util/HashMap") (P_M : own_Mp Z h0 a2 (own_K key0 key1 key2 key3 key4) Cc Xx (5 : Int) Lo) (P_Ks : own_Ks Z h0 (own_K key0 key1 key2 key3 key4)) (P_S_HI : Sta Z h0 "java/lang/Integer$IntegerCache" "high" "I" (.int 127)) (P_S_CA : Sta Z h0 "java/lang/Integer$IntegerCache" "cache" "[Ljava/lang/Integer;" (.ref f_CA)) (P_Ca : own_Ca Z h0 f_CA k_CA fn_CA) (P_S_CS : Sta Z h0 cST "COMPACT_STRINGS" "Z" (.int f_CS)) (hn_CS : ¬ (f_CS = (0 : Int32))) (P_E_key0 : Exa Z h0 key0 "java/lang/String") (P_E_key1 : Exa Z h0 key1 "java/lang/String") (P_E_key2 : Exa Z h0 key2 "java/lang/String") (P_E_key3 : Exa Z h0 key3 "java/lang/String") (P_E_key4 : Exa Z h0 key4 "java/lang/String") (g_key0 : n0 ≤ key0) (g_key1 : n0 ≤ key1) (g_key2 : n0 ≤ key2) (g_key3 : n0 ≤ key3) (g_key4 : n0 ≤ key4) (P_F_a0_relevance : Fld Z h0 a0 "com/example/libacross/libacross/eval/JudgedRanking" "relevance" "[I" f_a0_relevance) (g_a0 : n0 ≤ a0) (ne_key0_key1 : key0 ≠ key1) (ne_key0_key2 : key0 ≠ key2) (ne_key1_key2 : key1 ≠ key2) (ne_key0_key3 : key0 ≠ key3) (ne_key1_key3 : key1 ≠ key3) (ne_key2_key3 : key2 ≠ key3) (ne_key0_key4 : key0 ≠ key4) (ne_key1_key4 : key1 ≠ key4) (ne_key2_key4 : key2 ≠ key4) (ne_key3_key4 : key3 ≠ key4) (g_a2 : n0 ≤ a2) (P_F_a0_idealGains : Fld Z h0 a0 "com/example/libacross/libacross/eval/JudgedRanking" "idealGains" "[I" f_a0_idealGains) :
  qM l Z (⟨"com/example/libacross/libacross/eval/JudgedRanking", "<init>", "(Ljava/util/List;Ljava/util/Map;)V"⟩ : MethodName) prog_4_method_1_code 7 none ws ({ frames := 5, cells := 6, slots := 25, locals := 79 } : Room) #[(.ref a0), (.ref a1), (.ref a2)] h0 (Qjri Z Nn key0 key1 key2 key3 key4 Cc Xx Lo f_CA k_CA fn_CA f_CS a0 a1 a2 f_a0_relevance f_a0_idealGains h0 n0) 6 25 := qe d14 (plainFor_of_name pn_jri) (fun m => ef_jri m a0 a1 a2) fun p e s m below meth c s₁ hx Y hml hlk hown hnm X0 e0 hZ hrt => by
 have hwd := qw hw
 have N0 := Fr.nil n0
 show qG p e below _ (s₁.setTop (mkF m 0 #[vR a0, vR a1, vR a2, .unset, .unset, .unset, .unset] []))
 refine qb (fun _ k => XS.aloadN X0.here hx rfl (Y 0 rfl) rfl rfl k) ?_
 obtain ⟨T1, X1, e1, st1⟩ := initO X0 hx hZ hown (hwd 92 rfl) (hwd 20 rfl) (hwd 21 rfl) e0 (g := (mkF m 1 #[vR a0, vR a1, vR a2, .unset, .unset, .unset, .unset] [(.ref a0)])) rfl (by rw [hml]; rfl) rfl (Y 1 rfl) (by decide) (W := 0) (by show 2 * 0 + _ ≤ _; exact Nat.le_of_eq rfl) (by decide)
 refine qb st1 ?_
 show qG p e below _ (T1.setTop (mkF m 4 #[vR a0, vR a1, vR a2, .unset, .unset, .unset, .unset] []))
 refine qb (fun _ k => XS.aloadN X1.here hx rfl (Y 2 rfl) rfl rfl k) ?_
 refine qb (fun _ k => XS.aloadN X1.here hx rfl (Y 3 rfl) rfl rfl k) ?_
 obtain ⟨_, T2, Lc2, X2, hQ2, st2⟩ := own_cF (xi := (⟨"java/util/List", "size", "()I"⟩ : MethodName)) X1 hx hZ hown hml (rmalsz l Z A0 hw [] a1 Nn h0 n0 Z0 P_E_a1 P_F_a1_size) (hwd 93 rfl) (hwd 97 rfl) (hwd 44 rfl) (hwd 101 rfl) (by decide) pd_93 e1 (hwd 94 rfl) (hwd 95 rfl) rfl (hwd 96 rfl) (hwd 98 rfl) (hwd 99 rfl) (hwd 100 rfl) P_E_a1 (g := (mkF m 6 #[vR a0, vR a1, vR a2, .unset, .unset, .unset, .unset] [(.ref a1), (.ref a0)])) (rest := [(.ref a0)]) rfl rfl rfl rfl (Y 4 rfl) rfl
 obtain ⟨rfl, Nq2, eq2⟩ := hQ2
 have N2 := Fr.app N0 Nq2
 refine qb st2 ?_
 show qG p e below _ (T2.setTop (mkF m 11 #[vR a0, vR a1, vR a2, .unset, .unset, .unset, .unset] [(.int Nn), (.ref a0)]))
 obtain ⟨T3, h3, k3, X3, e3, E3, A3, Ax3, st3⟩ := newPE X2 hx hZ (hwd 104 rfl) eq2 (g := (mkF m 11 #[vR a0, vR a1, vR a2, .unset, .unset, .unset, .unset] [(.int Nn), (.ref a0)])) rfl (Y 5 rfl) rfl (ob_jri_66 Nn f_CS hn0 hn5 hn_CS) (cap := 4) (ob_jri_67 Nn f_CS hn0 hn5 hn_CS) (by decide) (by decide) (by decide) (ad := "[I") (by decide)
 obtain ⟨b3, g3⟩ : ∃ z, z = h0.size := ⟨_, rfl⟩
 have ge_b3 : n0 ≤ b3 := ql Z0 (Nat.le_of_eq g3.symm)
 have sz_b3 := ql (Keep.refl h0 [key0, key1, key2, key3, key4, a0, a2]).1 (Nat.le_of_eq g3.symm)
 have K3 : Keep h0 h3 [key0, key1, key2, key3, key4, a0, a2] := (Keep.refl h0 [key0, key1, key2, key3, key4, a0, a2]).ext E3
 have Z3 := ql Z0 E3.1
 rw [← g3] at A3 Ax3 st3
 have V3 : qA Z h3 b3 k3 .int Nn (fun i => .int ((fun _ => (0 : Int32)) i)) := own_arfNew A3 (ob_jri_66 Nn f_CS hn0 hn5 hn_CS)
 refine qb st3 ?_
 show qG p e below _ (T3.setTop (mkF m 13 #[vR a0, vR a1, vR a2, .unset, .unset, .unset, .unset] [(.ref b3), (.ref a0)]))
 have F4 := (P_E_a0.ext E3)
 have F5 := (P_F_a0_relevance.ext E3)
 obtain ⟨T6, h6, X6, e6, W6, st6⟩ := putF X3 hx hZ hown (host := "") (Or.inl (hwd 105 rfl)) Via.refl e3 F5 F4 (Or.inr ⟨(hwd 106 rfl), rfl, hnm⟩) (hwd 87 rfl) (ty := (.array .int)) (by decide) rfl rfl (g := (mkF m 13 #[vR a0, vR a1, vR a2, .unset, .unset, .unset, .unset] [(.ref b3), (.ref a0)])) rfl rfl (Y 6 rfl)
 have Fw6 : Fld Z h6 a0 "com/example/libacross/libacross/eval/JudgedRanking" "relevance" "[I" (.ref b3) := F5.same W6
 have K6 : Keep h0 h6 [key0, key1, key2, key3, key4, a0, a2] := K3.wr W6 (Or.inl (List.mem_of_getElem? (i := 5) rfl))
 have Z6 := ql Z3 (Keep.of_wr W6).1
 have N6 := Fr.snoc X6 N2 g_a0
 refine qb st6 ?_
 show qG p e below _ (T6.setTop (mkF m 16 #[vR a0, vR a1, vR a2, .unset, .unset, .unset, .unset] []))
 refine qb (fun _ k => XS.iconst X6.here hx rfl (Y 7 rfl) k) ?_
 refine qb (fun _ k => XS.istoreN X6.here hx rfl (Y 8 rfl) rfl (l' := #[vR a0, vR a1, vR a2, vI 0, .unset, .unset, .unset]) rfl k) ?_
 show qG p e below _ (T6.setTop (mkF m 18 #[vR a0, vR a1, vR a2, vI 0, .unset, .unset, .unset] []))
 have F20 := (F4.wr W6)
 have F21 := ((P_L.ext E3).keep (Keep.of_wr W6) (allS (qo (P_E_a0.ext E3) (by decide)) all0))
 have F22 := ((P_E_a1.ext E3).wr W6)
 have nq23 := ne_exa F22 F20 (by decide)
 have F24 := ((P_F_a1_size.ext E3).other W6 (Or.inl nq23))
 have F25 := ((P_E_a2.ext E3).wr W6)
 have F26 := ((P_M.ext E3).keep (Keep.of_wr W6) (allS (qo (P_E_a0.ext E3) (by decide)) all0))
 have F27 := ((P_Ks.ext E3).keep (Keep.of_wr W6) (allS (qo (P_E_a0.ext E3) (by decide)) all0))
 have F28 := ((P_S_HI.ext E3).wr W6)
 have F29 := ((P_S_CA.ext E3).wr W6)
 have F30 := ((P_Ca.ext E3).keep (Keep.of_wr W6) (allS (qo (P_E_a0.ext E3) (by decide)) all0))
 have F31 := ((P_S_CS.ext E3).wr W6)
 have F32 := ((P_E_key0.ext E3).wr W6)
 have F33 := ((P_E_key1.ext E3).wr W6)
 have F34 := ((P_E_key2.ext E3).wr W6)
 have F35 := ((P_E_key3.ext E3).wr W6)
 have F36 := ((P_E_key4.ext E3).wr W6)
 have F37 := ((P_F_a0_idealGains.ext E3).other W6 (Or.inr (slot_ne (Or.inr (hwd 213 rfl)) (Or.inr (hwd 106 rfl)) (by decide) (t := (.array .int)) (t' := (.array .int)) (by decide) (by decide))))
 have F38 := (Ax3.wr W6)
 have nq39 := ne_exa F38 F20 (by decide)
 have F40 := (V3.other W6 nq39)
 have LP15 : ∀ (fu16 : Nat) (T7 : State) (L8 : List Loc) (h9 : Heap) (z17 : Int32) (gg18 : Nat → Int32), fu16 = (Nn).toNatClampNeg - (z17).toNatClampNeg → Stand p l e ({ frames := 5, cells := 6, slots := 25, locals := 79 } : Room) s m #[(.ref a0), (.ref a1), (.ref a2)] below meth c T7 L8 1 4 → T7.heap = h9 → Fr n0 L8 → Keep h0 h9 [key0, key1, key2, key3, key4, a0, a2] → n0 ≤ h9.size → Exa Z h9 a0 "com/example/libacross/libacross/eval/JudgedRanking" → own_Al Z h9 a1 Nn (own_K key0 key1 key2 key3 key4) → Exa Z h9 a1 "java/util/ArrayList" → Fld Z h9 a1 cAL "size" "I" (.int Nn) → Exa Z h9 a2 "java/util/HashMap" → own_Mp Z h9 a2 (own_K key0 key1 key2 key3 key4) Cc Xx (5 : Int) Lo → own_Ks Z h9 (own_K key0 key1 key2 key3 key4) → Sta Z h9 "java/lang/Integer$IntegerCache" "high" "I" (.int 127) → Sta Z h9 "java/lang/Integer$IntegerCache" "cache" "[Ljava/lang/Integer;" (.ref f_CA) → own_Ca Z h9 f_CA k_CA fn_CA → Sta Z h9 cST "COMPACT_STRINGS" "Z" (.int f_CS) → Exa Z h9 key0 "java/lang/String" → Exa Z h9 key1 "java/lang/String" → Exa Z h9 key2 "java/lang/String" → Exa Z h9 key3 "java/lang/String" → Exa Z h9 key4 "java/lang/String" → Fld Z h9 a0 "com/example/libacross/libacross/eval/JudgedRanking" "relevance" "[I" (.ref b3) → Fld Z h9 a0 "com/example/libacross/libacross/eval/JudgedRanking" "idealGains" "[I" f_a0_idealGains → Exa Z h9 b3 "[I" → qA Z h9 b3 k3 .int Nn (fun i => .int (gg18 i)) → ((¬ (z17 < (0 : Int32))) ∧ (z17).toNatClampNeg ≤ (Nn).toNatClampNeg ∧ own_G Cc Xx gg18 (z17).toNatClampNeg) → qG p e below (own_Fin s 6 25 (Qjri Z Nn key0 key1 key2 key3 key4 Cc Xx Lo f_CA k_CA fn_CA f_CS a0 a1 a2 f_a0_relevance f_a0_idealGains h0 n0)) (T7.setTop (mkF m 18 #[vR a0, vR a1, vR a2, vI z17, .unset, .unset, .unset] [])) := by
  intro fu16
  induction fu16 using Nat.strongRecOn with
  | _ fu16 ihfu16 =>
   intro T7 L8 h9 z17 gg18 hfu62 X10 e11 N12 K13 Z14 F41 F42 F43 F44 F45 F46 F47 F48 F49 F50 F51 F52 F53 F54 F55 F56 F57 F58 F59 F60 hi61
   refine qb (fun _ k => XS.iloadN X10.here hx rfl (Y 9 rfl) rfl k) ?_
   refine qb (fun _ k => XS.aloadN X10.here hx rfl (Y 10 rfl) rfl rfl k) ?_
   obtain ⟨T63, X63, e63, st63⟩ := getF X10 hx hZ hown (host := "") (Or.inl (hwd 105 rfl)) Via.refl e11 F57 (g := (mkF m 20 #[vR a0, vR a1, vR a2, vI z17, .unset, .unset, .unset] [(.ref a0), (.int z17)])) rfl rfl (Y 11 rfl)
   refine qb st63 ?_
   obtain ⟨cl64, Ar64, qq64, S64, M64, H64, G64⟩ := id F60
   refine qb (fun t k => X63.arraylength hx (by rw [e63]; exact Ar64.1) (State.isArrayOf_alike hZ.alike Ar64.2.1) (g := (mkF m 23 #[vR a0, vR a1, vR a2, vI z17, .unset, .unset, .unset] [(.ref b3), (.int z17)])) rfl rfl (Y 12 rfl) _ k) ?_
   rw [len_of S64 M64]
   show qG p e below _ (T63.setTop (mkF m 24 #[vR a0, vR a1, vR a2, vI z17, .unset, .unset, .unset] [(.int Nn), (.int z17)]))
   by_cases c65 : z17 < Nn
   ·skip
    refine qb (fun _ k => XS.icmpNo X63.here hx rfl (Y 13 rfl) rfl (tlt c65).2.1 k) ?_
    show qG p e below _ (T63.setTop (mkF m 27 #[vR a0, vR a1, vR a2, vI z17, .unset, .unset, .unset] []))
    refine qb (fun _ k => XS.aloadN X63.here hx rfl (Y 14 rfl) rfl rfl k) ?_
    obtain ⟨T66, X66, e66, st66⟩ := getF X63 hx hZ hown (host := "") (Or.inl (hwd 105 rfl)) Via.refl e63 F57 (g := (mkF m 28 #[vR a0, vR a1, vR a2, vI z17, .unset, .unset, .unset] [(.ref a0)])) rfl rfl (Y 15 rfl)
    refine qb st66 ?_
    refine qb (fun _ k => XS.iloadN X66.here hx rfl (Y 16 rfl) rfl k) ?_
    refine qb (fun _ k => XS.aloadN X66.here hx rfl (Y 17 rfl) rfl rfl k) ?_
    refine qb (fun _ k => XS.aloadN X66.here hx rfl (Y 18 rfl) rfl rfl k) ?_
    refine qb (fun _ k => XS.iloadN X66.here hx rfl (Y 19 rfl) rfl k) ?_
    obtain ⟨_, T67, Lc67, X67, hQ67, st67⟩ := own_cF (xi := (⟨"java/util/List", "get", "(I)Ljava/lang/Object;"⟩ : MethodName)) X66 hx hZ hown hml (rmgetL l Z A0 hw [] Nn (own_K key0 key1 key2 key3 key4) a1 z17 h9 n0 Z14 F42 F43 F44 hn0 hn5 (ob_jri_68 Nn Cc Xx f_CS z17 gg18 hn0 hn5 hn_CS hi61 c65) c65 (ob_jri_69 Nn Cc Xx f_CS z17 gg18 hn0 hn5 hn_CS hi61 c65)) (hwd 248 rfl) (hwd 252 rfl) (hwd 44 rfl) (hwd 255 rfl) (by decide) pd_248 e66 (hwd 249 rfl) (hwd 250 rfl) rfl (hwd 251 rfl) (hwd 253 rfl) (hwd 254 rfl) (hwd 100 rfl) F43 (g := (mkF m 35 #[vR a0, vR a1, vR a2, vI z17, .unset, .unset, .unset] [(.int z17), (.ref a1), (.ref a2), (.int z17), (.ref b3)])) (rest := [(.ref a2), (.int z17), (.ref b3)]) rfl rfl rfl rfl (Y 20 rfl) rfl
    obtain ⟨b68, b69, rfl, Nq67, eq67, F70, F71, hp72⟩ := hQ67
    have N67 := Fr.app N12 Nq67
    rw [eq67] at F70 F71
    refine qb st67 ?_
    show qG p e below _ (T67.setTop (mkF m 40 #[vR a0, vR a1, vR a2, vI z17, .unset, .unset, .unset] [(.ref b68), (.ref a2), (.int z17), (.ref b3)]))
    obtain ⟨T73, X73, e73, st73⟩ := castY X67 hx hZ hown (hwd 269 rfl) eq67 (Ins.self F70) (g := (mkF m 40 #[vR a0, vR a1, vR a2, vI z17, .unset, .unset, .unset] [(.ref b68), (.ref a2), (.int z17), (.ref b3)])) rfl rfl (Y 21 rfl)
    refine qb st73 ?_
    show qG p e below _ (T73.setTop (mkF m 43 #[vR a0, vR a1, vR a2, vI z17, .unset, .unset, .unset] [(.ref b68), (.ref a2), (.int z17), (.ref b3)]))
    obtain ⟨_, T74, Lc74, X74, hQ74, st74⟩ := own_cV X73 hx hZ hown hml (rmdid l Z A0 hw [] b68 b69 h9 n0 Z14 F70 F71) (hwd 271 rfl) (hwd 273 rfl) (hwd 28 rfl) (hwd 275 rfl) (by decide) pd_271 e73 (hwd 272 rfl) (hwd 274 rfl) F70 (g := (mkF m 43 #[vR a0, vR a1, vR a2, vI z17, .unset, .unset, .unset] [(.ref b68), (.ref a2), (.int z17), (.ref b3)])) (rest := [(.ref a2), (.int z17), (.ref b3)]) rfl rfl rfl rfl (Y 22 rfl) rfl
    obtain ⟨rfl, Nq74, eq74⟩ := hQ74
    have N74 := Fr.app N67 Nq74
    refine qb st74 ?_
    show qG p e below _ (T74.setTop (mkF m 46 #[vR a0, vR a1, vR a2, vI z17, .unset, .unset, .unset] [(.ref b69), (.ref a2), (.int z17), (.ref b3)]))
    have hk75 : (own_K key0 key1 key2 key3 key4) (z17).toNatClampNeg = b69 := hp72.symm
    have ge75 : n0 ≤ b69 := own_Kge hk75 g_key0 g_key1 g_key2 g_key3 g_key4
    have mm75 : b69 ∈ [key0, key1, key2, key3, key4, a0, a2] := own_Kmem hk75 (fun x hx => (List.mem_append_left [a0, a2] hx : x ∈ [key0, key1, key2, key3, key4] ++ _))
    have hl75 : (z17).toNatClampNeg < 5 := (ob_jri_70 Nn key0 key1 key2 key3 key4 Cc Xx f_CS z17 gg18 b69 hn0 hn5 hn_CS hi61 c65 hp72 hk75)
    have Ek75 := (F47.2 (z17).toNatClampNeg hl75).exa
    rw [hk75] at Ek75
    refine qb (fun _ k => XS.iconst X74.here hx rfl (Y 23 rfl) k) ?_
    obtain ⟨_, T76, Lc76, X76, hQ76, st76⟩ := own_cS X74 hx hZ hown hml (rmivo0 l Z A0 hw [] f_CA k_CA fn_CA h9 n0 Z14 F48 F49 F50) (hwd 276 rfl) (hwd 277 rfl) (hwd 278 rfl) (hwd 279 rfl) (by decide) pd_276 eq74 (g := (mkF m 47 #[vR a0, vR a1, vR a2, vI z17, .unset, .unset, .unset] [(.int 0), (.ref b69), (.ref a2), (.int z17), (.ref b3)])) (rest := [(.ref b69), (.ref a2), (.int z17), (.ref b3)]) rfl rfl rfl rfl (Y 24 rfl) rfl
    obtain ⟨b77, rfl, Nq76, eq76, F78, F79, hp80⟩ := hQ76
    have N76 := Fr.app N74 Nq76
    rw [eq76] at F78 F79
    refine qb st76 ?_
    show qG p e below _ (T76.setTop (mkF m 50 #[vR a0, vR a1, vR a2, vI z17, .unset, .unset, .unset] [(.ref b77), (.ref b69), (.ref a2), (.int z17), (.ref b3)]))
    obtain ⟨_, T81, Lc81, X81, hQ81, st81⟩ := own_cF (xi := (⟨"java/util/Map", "getOrDefault", "(Ljava/lang/Object;Ljava/lang/Object;)Ljava/lang/Object;"⟩ : MethodName)) X76 hx hZ hown hml (rmgod l Z A0 hw [] (own_K key0 key1 key2 key3 key4) Cc Xx (5 : Int) Lo (z17).toNatClampNeg (0 : Int32) f_CS a2 b69 b77 h9 n0 Z14 F45 F46 F47 Ek75 F78 F79 F51 hn_CS hk75 hl75 ge75) (hwd 283 rfl) (hwd 287 rfl) (hwd 68 rfl) (hwd 290 rfl) (by decide) pd_283 eq76 (hwd 284 rfl) (hwd 285 rfl) rfl (hwd 286 rfl) (hwd 288 rfl) (hwd 289 rfl) (hwd 114 rfl) F45 (g := (mkF m 50 #[vR a0, vR a1, vR a2, vI z17, .unset, .unset, .unset] [(.ref b77), (.ref b69), (.ref a2), (.int z17), (.ref b3)])) (rest := [(.int z17), (.ref b3)]) rfl rfl rfl rfl (Y 25 rfl) rfl
    obtain ⟨b82, o83, rfl, Nq81, Kq81, F84, F85, F86, F87, hp88⟩ := hQ81
    have N81 := Fr.app N76 Nq81
    have K81 : Keep h0 T81.heap [key0, key1, key2, key3, key4, a0, a2] := K13.trans Kq81 ((allS (Or.inl mm75) all0))
    have Z81 := ql Z14 Kq81.1
    refine qb st81 ?_
    show qG p e below _ (T81.setTop (mkF m 55 #[vR a0, vR a1, vR a2, vI z17, .unset, .unset, .unset] [(.ref b82), (.int z17), (.ref b3)]))
    obtain ⟨T89, X89, e89, st89⟩ := castY X81 hx hZ hown (hwd 297 rfl) rfl (Ins.self F85) (g := (mkF m 55 #[vR a0, vR a1, vR a2, vI z17, .unset, .unset, .unset] [(.ref b82), (.int z17), (.ref b3)])) rfl rfl (Y 26 rfl)
    refine qb st89 ?_
    show qG p e below _ (T89.setTop (mkF m 58 #[vR a0, vR a1, vR a2, vI z17, .unset, .unset, .unset] [(.ref b82), (.int z17), (.ref b3)]))
    obtain ⟨_, T90, Lc90, X90, hQ90, st90⟩ := own_cV X89 hx hZ hown hml (rmiv l Z A0 hw [] b82 o83 T81.heap n0 Z81 F85 F86) (hwd 299 rfl) (hwd 301 rfl) (hwd 278 rfl) (hwd 303 rfl) (by decide) pd_93 e89 (hwd 300 rfl) (hwd 302 rfl) F85 (g := (mkF m 58 #[vR a0, vR a1, vR a2, vI z17, .unset, .unset, .unset] [(.ref b82), (.int z17), (.ref b3)])) (rest := [(.int z17), (.ref b3)]) rfl rfl rfl rfl (Y 27 rfl) rfl
    obtain ⟨rfl, Nq90, eq90⟩ := hQ90
    have N90 := Fr.app N81 Nq90
    refine qb st90 ?_
    show qG p e below _ (T90.setTop (mkF m 61 #[vR a0, vR a1, vR a2, vI z17, .unset, .unset, .unset] [(.int o83), (.int z17), (.ref b3)]))
    have F92 := (F59.keep Kq81)
    have nq91 := ne_exa F92 F84 (by decide)
    have F93 := (F60.keep Kq81 (ninS nq91 nin0))
    obtain ⟨cl94, Ar94, qq94, S94, M94, H94, G94⟩ := id F93
    have hin94 : ¬ (z17 < 0 ∨ cl94.slots.size ≤ (z17).toNatClampNeg) := inb_of S94 (ob_jri_71 Nn key0 key1 key2 key3 key4 Cc Xx f_CS z17 gg18 b69 o83 hn0 hn5 hn_CS hi61 c65 hp72 hk75 hl75 hp80 hp88)
    obtain ⟨T95, h95, X95, e95, W95, st95⟩ := stI X90 hx hZ eq90 Ar94 (j := z17) hin94 (g := (mkF m 61 #[vR a0, vR a1, vR a2, vI z17, .unset, .unset, .unset] [(.int o83), (.int z17), (.ref b3)])) rfl rfl (Y 28 rfl)
    have V95 : qA Z h95 b3 k3 .int Nn (fun i => .int ((qu gg18 (z17).toNatClampNeg o83) i)) := own_arfSetI Ar94 qq94 S94 M94 H94 G94 rfl W95
    have K95 : Keep h0 h95 [key0, key1, key2, key3, key4, a0, a2] := K81.wr W95 (Or.inr sz_b3)
    have Z95 := ql Z81 (Keep.of_wr W95).1
    have N95 := Fr.snoc X95 N90 ge_b3
    refine qb st95 ?_
    show qG p e below _ (T95.setTop (mkF m 62 #[vR a0, vR a1, vR a2, vI z17, .unset, .unset, .unset] []))
    refine qb (fun _ k => XS.iinc X95.here hx rfl (Y 29 rfl) rfl (l' := #[vR a0, vR a1, vR a2, vI (z17 + (1 : Int32)), .unset, .unset, .unset]) rfl k) ?_
    show qG p e below _ (T95.setTop (mkF m 65 #[vR a0, vR a1, vR a2, vI (z17 + (1 : Int32)), .unset, .unset, .unset] []))
    refine qb (fun _ k => XS.goto X95.here hx rfl (pc0 := 65) (pc' := 18) rfl (Y 30 rfl) (by decide) (by decide) k) ?_
    show qG p e below _ (T95.setTop (mkF m 18 #[vR a0, vR a1, vR a2, vI (z17 + (1 : Int32)), .unset, .unset, .unset] []))
    have F96 := ((F41.keep Kq81).wr W95)
    have F97 := ((F42.keep Kq81 (allS (qo Ek75 (by decide)) all0)).keep (Keep.of_wr W95) (allS (qo (F59.keep Kq81) (by decide)) all0))
    have F98 := ((F43.keep Kq81).wr W95)
    have F100 := (F84.wr W95)
    have nq99 := ne_exa F98 F100 (by decide)
    have F102 := (F92.wr W95)
    have nq101 := ne_exa F98 F102 (by decide)
    have F103 := ((F44.keep Kq81 (ninS nq99 nin0)).other W95 (Or.inl nq101))
    have F104 := ((F45.keep Kq81).wr W95)
    have F105 := ((F46.keep Kq81 (allS (qo Ek75 (by decide)) all0)).keep (Keep.of_wr W95) (allS (qo (F59.keep Kq81) (by decide)) all0))
    have F106 := (F87.keep (Keep.of_wr W95) (allS (qo (F59.keep Kq81) (by decide)) all0))
    have F107 := ((qk F48 Kq81 (allS (qx Ek75) all0)).wr W95)
    have F108 := ((qk F49 Kq81 (allS (qx Ek75) all0)).wr W95)
    have F109 := ((F50.keep Kq81 (allS (qo Ek75 (by decide)) all0)).keep (Keep.of_wr W95) (allS (qo (F59.keep Kq81) (by decide)) all0))
    have F110 := ((qk F51 Kq81 (allS (qx Ek75) all0)).wr W95)
    have F111 := ((F52.keep Kq81).wr W95)
    have F112 := ((F53.keep Kq81).wr W95)
    have F113 := ((F54.keep Kq81).wr W95)
    have F114 := ((F55.keep Kq81).wr W95)
    have F115 := ((F56.keep Kq81).wr W95)
    have nq116 := ne_exa F96 F100 (by decide)
    have nq117 := ne_exa F96 F102 (by decide)
    have F118 := ((F57.keep Kq81 (ninS nq116 nin0)).other W95 (Or.inl nq117))
    have F119 := ((F58.keep Kq81 (ninS nq116 nin0)).other W95 (Or.inl nq117))
    exact ihfu16 _ (by rw [hfu62]; exact (ob_jri_72 Nn key0 key1 key2 key3 key4 Cc Xx f_CS z17 gg18 b69 o83 hn0 hn5 hn_CS hi61 c65 hp72 hk75 hl75 hp80 hp88)) _ _ _ (z17 + (1 : Int32)) (qu gg18 (z17).toNatClampNeg o83) rfl X95 e95 N95 K95 Z95 F96 F97 F98 F103 F104 F105 F106 F107 F108 F109 F110 F111 F112 F113 F114 F115 F118 F119 F102 V95 (ob_jri_73 Nn key0 key1 key2 key3 key4 Cc Xx f_CS z17 gg18 b69 o83 hn0 hn5 hn_CS hi61 c65 hp72 hk75 hl75 hp80 hp88)
   ·skip
    refine qb (fun _ k => XS.icmpYes X63.here hx rfl (pc0 := 24) (pc' := 68) rfl (Y 13 rfl) rfl (flt c65).2.1 (by decide) (by decide) k) ?_
    show qG p e below _ (T63.setTop (mkF m 68 #[vR a0, vR a1, vR a2, vI z17, .unset, .unset, .unset] []))
    obtain ⟨Sz120, Mc120, Th120, Lf120, Tw120, Em120, Fs120, Fm120, Fh120, Fl120, Ft120, Fv120, hr120, Tv120, hz120, hz120'⟩ := own_Mp.open F46 (by decide)
    refine qb (fun _ k => XS.iconst X63.here hx rfl (Y 31 rfl) k) ?_
    refine qb (fun _ k => XS.istoreN X63.here hx rfl (Y 32 rfl) rfl (l' := #[vR a0, vR a1, vR a2, vI 0, .unset, .unset, .unset]) rfl k) ?_
    show qG p e below _ (T63.setTop (mkF m 70 #[vR a0, vR a1, vR a2, vI 0, .unset, .unset, .unset] []))
    refine qb (fun _ k => XS.aloadN X63.here hx rfl (Y 33 rfl) rfl rfl k) ?_
    obtain ⟨_, T121, Lc121, X121, hQ121, st121⟩ := own_cF (xi := (⟨"java/util/Map", "size", "()I"⟩ : MethodName)) X63 hx hZ hown hml (rmhmsz l Z A0 hw [] a2 Sz120 h9 n0 Z14 F45 Fs120) (hwd 107 rfl) (hwd 111 rfl) (hwd 68 rfl) (hwd 115 rfl) (by decide) pd_93 e63 (hwd 108 rfl) (hwd 109 rfl) rfl (hwd 110 rfl) (hwd 112 rfl) (hwd 113 rfl) (hwd 114 rfl) F45 (g := (mkF m 71 #[vR a0, vR a1, vR a2, vI 0, .unset, .unset, .unset] [(.ref a2)])) (rest := []) rfl rfl rfl rfl (Y 34 rfl) rfl
    obtain ⟨rfl, Nq121, eq121⟩ := hQ121
    have N121 := Fr.app N12 Nq121
    refine qb st121 ?_
    show qG p e below _ (T121.setTop (mkF m 76 #[vR a0, vR a1, vR a2, vI 0, .unset, .unset, .unset] [(.int Sz120)]))
    obtain ⟨T122, h122, k122, X122, e122, E122, A122, Ax122, st122⟩ := newPE X121 hx hZ (hwd 104 rfl) eq121 (g := (mkF m 76 #[vR a0, vR a1, vR a2, vI 0, .unset, .unset, .unset] [(.int Sz120)])) rfl (Y 35 rfl) rfl (ob_jri_74 Nn Cc Xx f_CS z17 gg18 Sz120 Tw120 hn0 hn5 hn_CS hi61 c65 hr120 hz120 hz120') (cap := 5) (ob_jri_75 Nn Cc Xx f_CS z17 gg18 Sz120 Tw120 hn0 hn5 hn_CS hi61 c65 hr120 hz120 hz120') (by decide) (by decide) (by decide) (ad := "[I") (by decide)
    obtain ⟨b122, g122⟩ : ∃ z, z = h9.size := ⟨_, rfl⟩
    have ge_b122 : n0 ≤ b122 := ql Z14 (Nat.le_of_eq g122.symm)
    have sz_b122 := ql K13.1 (Nat.le_of_eq g122.symm)
    have K122 : Keep h0 h122 [key0, key1, key2, key3, key4, a0, a2] := K13.ext E122
    have Z122 := ql Z14 E122.1
    rw [← g122] at A122 Ax122 st122
    have V122 : qA Z h122 b122 k122 .int Sz120 (fun i => .int ((fun _ => (0 : Int32)) i)) := own_arfNew A122 (ob_jri_74 Nn Cc Xx f_CS z17 gg18 Sz120 Tw120 hn0 hn5 hn_CS hi61 c65 hr120 hz120 hz120')
    refine qb st122 ?_
    show qG p e below _ (T122.setTop (mkF m 78 #[vR a0, vR a1, vR a2, vI 0, .unset, .unset, .unset] [(.ref b122)]))
    refine qb (fun _ k => XS.astore X122.here hx rfl (Y 36 rfl) rfl rfl (l' := #[vR a0, vR a1, vR a2, vI 0, vR b122, .unset, .unset]) rfl k) ?_
    show qG p e below _ (T122.setTop (mkF m 80 #[vR a0, vR a1, vR a2, vI 0, vR b122, .unset, .unset] []))
    refine qb (fun _ k => XS.aloadN X122.here hx rfl (Y 37 rfl) rfl rfl k) ?_
    have F123 := (F45.ext E122)
    have F124 := (Fv120.ext E122)
    have F125 := (Ft120.ext E122)
    have F126 := (Fs120.ext E122)
    have F127 := (Fm120.ext E122)
    have F128 := (Fh120.ext E122)
    have F129 := (Fl120.ext E122)
    obtain ⟨_, T130, Lc130, X130, hQ130, st130⟩ := own_cF (xi := (⟨"java/util/Map", "values", "()Ljava/util/Collection;"⟩ : MethodName)) X122 hx hZ hown hml (rmvals l Z A0 hw [] Sz120 Mc120 Th120 Lf120 Tw120 a2 h122 n0 Z122 F123 F124 F125 F126 F127 F128 F129 g_a2) (hwd 118 rfl) (hwd 122 rfl) (hwd 68 rfl) (hwd 125 rfl) (by decide) pd_118 e122 (hwd 119 rfl) (hwd 120 rfl) rfl (hwd 121 rfl) (hwd 123 rfl) (hwd 124 rfl) (hwd 114 rfl) F123 (g := (mkF m 81 #[vR a0, vR a1, vR a2, vI 0, vR b122, .unset, .unset] [(.ref a2)])) (rest := []) rfl rfl rfl rfl (Y 38 rfl) rfl
    obtain ⟨b131, rfl, Nq130, Kq130, F132, F133, F134, F135, F136, F137, F138, hp139, hp140, F141, F142⟩ := hQ130
    have N130 := Fr.app N121 Nq130
    have K130 : Keep h0 T130.heap [key0, key1, key2, key3, key4, a0, a2] := K122.trans Kq130 ((allS (Or.inl (List.mem_of_getElem? (i := 6) rfl)) all0))
    have Z130 := ql Z122 Kq130.1
    have sz_b131 := ql K122.1 hp140
    refine qb st130 ?_
    show qG p e below _ (T130.setTop (mkF m 86 #[vR a0, vR a1, vR a2, vI 0, vR b122, .unset, .unset] [(.ref b131)]))
    have F143 := ((Tv120.ext E122).keep Kq130 (allS (qo (F45.ext E122) (by decide)) all0))
    obtain ⟨_, T144, Lc144, X144, hQ144, st144⟩ := own_cF (xi := (⟨"java/util/Collection", "iterator", "()Ljava/util/Iterator;"⟩ : MethodName)) X130 hx hZ hown hml (rmvit l Z A0 hw [] a2 Tw120 Sz120 Mc120 b131 T130.heap n0 Z130 F141 F142 F132 F136 F134 F135 F143 hr120) (hwd 140 rfl) (hwd 144 rfl) (hwd 131 rfl) (hwd 148 rfl) (by decide) pd_140 rfl (hwd 141 rfl) (hwd 142 rfl) rfl (hwd 143 rfl) (hwd 145 rfl) (hwd 146 rfl) (hwd 147 rfl) F141 (g := (mkF m 86 #[vR a0, vR a1, vR a2, vI 0, vR b122, .unset, .unset] [(.ref b131)])) (rest := []) rfl rfl rfl rfl (Y 39 rfl) rfl
    obtain ⟨b145, rfl, Nq144, Kq144, hp146, hp147, F148, F149, F150, F151⟩ := hQ144
    have N144 := Fr.app N130 Nq144
    have K144 : Keep h0 T144.heap [key0, key1, key2, key3, key4, a0, a2] := K130.trans Kq144 (all0)
    have Z144 := ql Z130 Kq144.1
    have sz_b145 := ql K130.1 hp147
    refine qb st144 ?_
    show qG p e below _ (T144.setTop (mkF m 91 #[vR a0, vR a1, vR a2, vI 0, vR b122, .unset, .unset] [(.ref b145)]))
    refine qb (fun _ k => XS.astore X144.here hx rfl (Y 40 rfl) rfl rfl (l' := #[vR a0, vR a1, vR a2, vI 0, vR b122, vR b145, .unset]) rfl k) ?_
    show qG p e below _ (T144.setTop (mkF m 93 #[vR a0, vR a1, vR a2, vI 0, vR b122, vR b145, .unset] []))
    obtain ⟨jj152, hj152, hj152', It152⟩ := F151
    have It152' := own_It.mono It152 (by decide : ((0 : Int32)).toInt ≤ 0)
    have nl168 : b122 ≠ b3 := (qm F60.lt (Nat.le_of_eq g122.symm))
    have F169 := (((F41.ext E122).keep Kq130).keep Kq144)
    have F170 := (F132.keep Kq144)
    have F171 := (((F52.ext E122).keep Kq130).keep Kq144)
    have F172 := (((F53.ext E122).keep Kq130).keep Kq144)
    have F173 := (((F54.ext E122).keep Kq130).keep Kq144)
    have F174 := (((F55.ext E122).keep Kq130).keep Kq144)
    have F175 := (((F56.ext E122).keep Kq130).keep Kq144)
    have nq176 := ne_exa F169 F170 (by decide)
    have F177 := (((F57.ext E122).keep Kq130 (ninS nq176 nin0)).keep Kq144 nin0)
    have F178 := (((F58.ext E122).keep Kq130 (ninS nq176 nin0)).keep Kq144 nin0)
    have F179 := (((F59.ext E122).keep Kq130).keep Kq144)
    have nq180 := ne_exa F179 F170 (by decide)
    have F181 := (((F60.ext E122).keep Kq130 (ninS nq180 nin0)).keep Kq144 nin0)
    have F182 := ((Ax122.keep Kq130).keep Kq144)
    have nq183 := ne_exa F182 F170 (by decide)
    have F184 := ((V122.keep Kq130 (ninS nq183 nin0)).keep Kq144 nin0)
    have F185 := (F133.keep Kq144 nin0)
    have F186 := (F134.keep Kq144 nin0)
    have F187 := (F135.keep Kq144 nin0)
    have F188 := (F136.keep Kq144 nin0)
    have F189 := (F137.keep Kq144 nin0)
    have F190 := (F138.keep Kq144 nin0)
    have F191 := (F141.keep Kq144)
    have F192 := (F142.keep Kq144 nin0)
    have LP161 : ∀ (fu162 : Nat) (T153 : State) (L154 : List Loc) (h155 : Heap) (z163 : Int32) (gg164 : Nat → Int32) (gh165 : Nat) (sl166 : Slot), fu162 = 20 - gh165 → Stand p l e ({ frames := 5, cells := 6, slots := 25, locals := 79 } : Room) s m #[(.ref a0), (.ref a1), (.ref a2)] below meth c T153 L154 4 15 → T153.heap = h155 → Fr n0 L154 → Keep h0 h155 [key0, key1, key2, key3, key4, a0, a2] → n0 ≤ h155.size → Exa Z h155 a0 "com/example/libacross/libacross/eval/JudgedRanking" → Exa Z h155 a2 "java/util/HashMap" → Exa Z h155 key0 "java/lang/String" → Exa Z h155 key1 "java/lang/String" → Exa Z h155 key2 "java/lang/String" → Exa Z h155 key3 "java/lang/String" → Exa Z h155 key4 "java/lang/String" → Fld Z h155 a0 "com/example/libacross/libacross/eval/JudgedRanking" "relevance" "[I" (.ref b3) → Fld Z h155 a0 "com/example/libacross/libacross/eval/JudgedRanking" "idealGains" "[I" f_a0_idealGains → Exa Z h155 b3 "[I" → qA Z h155 b3 k3 .int Nn (fun i => .int (gg18 i)) → Exa Z h155 b122 "[I" → qA Z h155 b122 k122 .int Sz120 (fun i => .int (gg164 i)) → Fld Z h155 a2 cAM "values" "Ljava/util/Collection;" (.ref b131) → Fld Z h155 a2 cHM "table" "[Ljava/util/HashMap$Node;" Tw120 → Fld Z h155 a2 cHM "size" "I" (.int Sz120) → Fld Z h155 a2 cHM "modCount" "I" (.int Mc120) → Fld Z h155 a2 cHM "threshold" "I" (.int Th120) → Fld Z h155 a2 cHM "loadFactor" "F" (.float Lf120) → Exa Z h155 b131 "java/util/HashMap$Values" → Fld Z h155 b131 "java/util/HashMap$Values" "this$0" "Ljava/util/HashMap;" (.ref a2) → Exa Z h155 b145 "java/util/HashMap$ValueIterator" → Fld Z h155 b145 cHI "this$0" "Ljava/util/HashMap;" (.ref a2) → Fld Z h155 b145 cHI "expectedModCount" "I" (.int Mc120) → own_It Z h155 b145 Tw120 Sz120 (z163).toInt gh165 → ((sl166 = .unset) ∨ (∃ (c_sl166 : Int32), sl166 = .val (.int c_sl166))) → ((¬ (z163 < (0 : Int32))) ∧ (z163).toNatClampNeg ≤ (Sz120).toNatClampNeg ∧ gh165 ≤ 17) → qG p e below (own_Fin s 6 25 (Qjri Z Nn key0 key1 key2 key3 key4 Cc Xx Lo f_CA k_CA fn_CA f_CS a0 a1 a2 f_a0_relevance f_a0_idealGains h0 n0)) (T153.setTop (mkF m 93 #[vR a0, vR a1, vR a2, vI z163, vR b122, vR b145, sl166] [])) := by
     intro fu162
     induction fu162 using Nat.strongRecOn with
     | _ fu162 ihfu162 =>
      intro T153 L154 h155 z163 gg164 gh165 sl166 hfu219 X156 e157 N158 K159 Z160 F193 F194 F195 F196 F197 F198 F199 F200 F201 F202 F203 F204 F205 F206 F207 F208 F209 F210 F211 F212 F213 F214 F215 F216 F217 hd167 hi218
      obtain ⟨Ei220, ⟨cv220, Fc220⟩, ⟨iv220, Fi220⟩, Fn220 | ⟨tt220, kt220, gt220, ix220, nd220, hs220, ky220, bd220, xx220, hT220, Et220, Vt220, Tb220, Fx220, Fn220, N220, q1220, q2220, q3220, q4220, q5220⟩⟩ := F217
      ·skip
       show qG p e below _ (T153.setTop (mkF m 93 #[vR a0, vR a1, vR a2, vI z163, vR b122, vR b145, sl166] []))
       refine qb (fun _ k => XS.aload X156.here hx rfl (Y 41 rfl) rfl rfl k) ?_
       obtain ⟨_, T221, Lc221, X221, hQ221, st221⟩ := own_cF (xi := (⟨"java/util/Iterator", "hasNext", "()Z"⟩ : MethodName)) X156 hx hZ hown hml (rmhnN l Z A0 hw [] b145 h155 n0 Z160 F214 Fn220) (hwd 177 rfl) (hwd 181 rfl) (hwd 160 rfl) (hwd 185 rfl) (by decide) pd_177 e157 (hwd 178 rfl) (hwd 179 rfl) rfl (hwd 180 rfl) (hwd 182 rfl) (hwd 183 rfl) (hwd 184 rfl) F214 (g := (mkF m 95 #[vR a0, vR a1, vR a2, vI z163, vR b122, vR b145, sl166] [(.ref b145)])) (rest := []) rfl rfl rfl rfl (Y 42 rfl) rfl
       obtain ⟨rfl, Nq221, eq221⟩ := hQ221
       have N221 := Fr.app N158 Nq221
       refine qb st221 ?_
       show qG p e below _ (T221.setTop (mkF m 100 #[vR a0, vR a1, vR a2, vI z163, vR b122, vR b145, sl166] [(.int 0)]))
       refine qb (fun _ k => XS.ifYes X221.here hx rfl (pc0 := 100) (pc' := 136) rfl (Y 43 rfl) rfl ((if0 _ _).trans (teq (by decide : (0 : Int32) = (0 : Int32))).1) (by decide) (by decide) k) ?_
       show qG p e below _ (T221.setTop (mkF m 136 #[vR a0, vR a1, vR a2, vI z163, vR b122, vR b145, sl166] []))
       refine qb (fun _ k => XS.aload X221.here hx rfl (Y 58 rfl) rfl rfl k) ?_
       refine qb (fun _ k => XS.iloadN X221.here hx rfl (Y 59 rfl) rfl k) ?_
       obtain ⟨_, T222, Lc222, X222, hQ222, st222⟩ := own_cS X221 hx hZ hown hml (rmcpo l Z A0 hw [] k122 Sz120 gg164 b122 z163 h155 n0 Z160 F204 F205 hz120' hz120 (ob_jri_76 Nn Cc Xx f_CS z17 gg18 Sz120 Tw120 jj152 z163 gh165 hn0 hn5 hn_CS hi61 c65 hr120 hz120 hz120' hj152' hi218) (ob_jri_77 Nn Cc Xx f_CS z17 gg18 Sz120 Tw120 jj152 z163 gh165 hn0 hn5 hn_CS hi61 c65 hr120 hz120 hz120' hj152' hi218)) (hwd 186 rfl) (hwd 187 rfl) (hwd 188 rfl) (hwd 189 rfl) (by decide) pd_186 eq221 (g := (mkF m 139 #[vR a0, vR a1, vR a2, vI z163, vR b122, vR b145, sl166] [(.int z163), (.ref b122)])) (rest := []) rfl rfl rfl rfl (Y 60 rfl) rfl
       obtain ⟨b223, b224, o225, b226, rfl, Nq222, Kq222, hp227, hp228, F229, F230, hp231⟩ := hQ222
       have N222 := Fr.app N221 Nq222
       have K222 : Keep h0 T222.heap [key0, key1, key2, key3, key4, a0, a2] := K159.trans Kq222 (all0)
       have Z222 := ql Z160 Kq222.1
       have sz_b223 := ql K159.1 hp228
       refine qb st222 ?_
       show qG p e below _ (T222.setTop (mkF m 142 #[vR a0, vR a1, vR a2, vI z163, vR b122, vR b145, sl166] [(.ref b223)]))
       have Vc232 := F229
       rw [hp231] at Vc232
       refine qb (fun _ k => XS.astore X222.here hx rfl (Y 61 rfl) rfl rfl (l' := #[vR a0, vR a1, vR a2, vI z163, vR b122, vR b223, sl166]) rfl k) ?_
       show qG p e below _ (T222.setTop (mkF m 144 #[vR a0, vR a1, vR a2, vI z163, vR b122, vR b223, sl166] []))
       refine qb (fun _ k => XS.aload X222.here hx rfl (Y 62 rfl) rfl rfl k) ?_
       obtain ⟨_, T233, Lc233, X233, hQ233, st233⟩ := own_cS X222 hx hZ hown hml (rmsrt l Z A0 hw [] b224 b226 z163 b223 T222.heap n0 Z222 F230 Vc232 (ob_jri_78 Nn Cc Xx f_CS z17 gg18 Sz120 Tw120 jj152 z163 gh165 o225 hn0 hn5 hn_CS hi61 c65 hr120 hz120 hz120' hj152' hi218 hp231) hp227) (hwd 199 rfl) (hwd 200 rfl) (hwd 188 rfl) (hwd 201 rfl) (by decide) pd_199 rfl (g := (mkF m 146 #[vR a0, vR a1, vR a2, vI z163, vR b122, vR b223, sl166] [(.ref b223)])) (rest := []) rfl rfl rfl rfl (Y 63 rfl) rfl
       obtain ⟨b234, rfl, Nq233, Kq233, F235, F236, hp237⟩ := hQ233
       have N233 := Fr.app N222 Nq233
       have K233 : Keep h0 T233.heap [key0, key1, key2, key3, key4, a0, a2] := K222.trans Kq233 ((allS (Or.inr sz_b223) all0))
       have Z233 := ql Z222 Kq233.1
       refine qb st233 ?_
       show qG p e below _ (T233.setTop (mkF m 149 #[vR a0, vR a1, vR a2, vI z163, vR b122, vR b223, sl166] []))
       refine qb (fun _ k => XS.aloadN X233.here hx rfl (Y 64 rfl) rfl rfl k) ?_
       refine qb (fun _ k => XS.iloadN X233.here hx rfl (Y 65 rfl) rfl k) ?_
       obtain ⟨T238, h238, k238, X238, e238, E238, A238, Ax238, st238⟩ := newPE X233 hx hZ (hwd 104 rfl) rfl (g := (mkF m 151 #[vR a0, vR a1, vR a2, vI z163, vR b122, vR b223, sl166] [(.int z163), (.ref a0)])) rfl (Y 66 rfl) rfl (ob_jri_79 Nn Cc Xx f_CS z17 gg18 Sz120 Tw120 jj152 z163 gh165 o225 hn0 hn5 hn_CS hi61 c65 hr120 hz120 hz120' hj152' hi218 hp231 hp237) (cap := 5) (ob_jri_80 Nn Cc Xx f_CS z17 gg18 Sz120 Tw120 jj152 z163 gh165 o225 hn0 hn5 hn_CS hi61 c65 hr120 hz120 hz120' hj152' hi218 hp231 hp237) (by decide) (by decide) (by decide) (ad := "[I") (by decide)
       obtain ⟨b238, g238⟩ : ∃ z, z = T233.heap.size := ⟨_, rfl⟩
       have ge_b238 : n0 ≤ b238 := ql Z233 (Nat.le_of_eq g238.symm)
       have sz_b238 := ql K233.1 (Nat.le_of_eq g238.symm)
       have K238 : Keep h0 h238 [key0, key1, key2, key3, key4, a0, a2] := K233.ext E238
       have Z238 := ql Z233 E238.1
       rw [← g238] at A238 Ax238 st238
       have V238 : qA Z h238 b238 k238 .int z163 (fun i => .int ((fun _ => (0 : Int32)) i)) := own_arfNew A238 (ob_jri_79 Nn Cc Xx f_CS z17 gg18 Sz120 Tw120 jj152 z163 gh165 o225 hn0 hn5 hn_CS hi61 c65 hr120 hz120 hz120' hj152' hi218 hp231 hp237)
       refine qb st238 ?_
       show qG p e below _ (T238.setTop (mkF m 153 #[vR a0, vR a1, vR a2, vI z163, vR b122, vR b223, sl166] [(.ref b238), (.ref a0)]))
       have F239 := (((F193.keep Kq222).keep Kq233).ext E238)
       have F241 := (F235.ext E238)
       have nq240 := ne_exa F239 F241 (by decide)
       have F242 := (((F201.keep Kq222 nin0).keep Kq233 (ninS nq240 nin0)).ext E238)
       obtain ⟨T243, h243, X243, e243, W243, st243⟩ := putF X238 hx hZ hown (host := "") (Or.inl (hwd 212 rfl)) Via.refl e238 F242 F239 (Or.inr ⟨(hwd 213 rfl), rfl, hnm⟩) (hwd 87 rfl) (ty := (.array .int)) (by decide) rfl rfl (g := (mkF m 153 #[vR a0, vR a1, vR a2, vI z163, vR b122, vR b223, sl166] [(.ref b238), (.ref a0)])) rfl rfl (Y 67 rfl)
       have Fw243 : Fld Z h243 a0 "com/example/libacross/libacross/eval/JudgedRanking" "idealGains" "[I" (.ref b238) := F242.same W243
       have K243 : Keep h0 h243 [key0, key1, key2, key3, key4, a0, a2] := K238.wr W243 (Or.inl (List.mem_of_getElem? (i := 5) rfl))
       have Z243 := ql Z238 (Keep.of_wr W243).1
       have N243 := Fr.snoc X243 N233 g_a0
       refine qb st243 ?_
       show qG p e below _ (T243.setTop (mkF m 156 #[vR a0, vR a1, vR a2, vI z163, vR b122, vR b223, sl166] []))
       refine qb (fun _ k => XS.iconst X243.here hx rfl (Y 68 rfl) k) ?_
       refine qb (fun _ k => XS.istore X243.here hx rfl (Y 69 rfl) rfl (l' := #[vR a0, vR a1, vR a2, vI z163, vR b122, vR b223, vI 0]) (by rcases hd167 with rfl | ⟨_, rfl⟩ <;> rfl) k) ?_
       show qG p e below _ (T243.setTop (mkF m 159 #[vR a0, vR a1, vR a2, vI z163, vR b122, vR b223, vI 0] []))
       have nl257 : b122 ≠ b223 := (qn F205.lt hp228)
       have nl258 : b122 ≠ b238 := (qn (((F205.keep Kq222 nin0).keep Kq233 (ninS nl257 nin0))).lt (Nat.le_of_eq g238.symm))
       have nl259 : b223 ≠ b238 := (qn F236.lt (Nat.le_of_eq g238.symm))
       have nl260 : b223 ≠ b3 := (qm F203.lt hp228)
       have nl261 : b238 ≠ b3 := (qm (((F203.keep Kq222 nin0).keep Kq233 (ninS (Ne.symm nl260) nin0))).lt (Nat.le_of_eq g238.symm))
       have F262 := (F239.wr W243)
       have F263 := ((((F195.keep Kq222).keep Kq233).ext E238).wr W243)
       have F264 := ((((F196.keep Kq222).keep Kq233).ext E238).wr W243)
       have F265 := ((((F197.keep Kq222).keep Kq233).ext E238).wr W243)
       have F266 := ((((F198.keep Kq222).keep Kq233).ext E238).wr W243)
       have F267 := ((((F199.keep Kq222).keep Kq233).ext E238).wr W243)
       have F268 := ((((F200.keep Kq222 nin0).keep Kq233 (ninS nq240 nin0)).ext E238).other W243 (Or.inr (slot_ne (Or.inr (hwd 106 rfl)) (Or.inr (hwd 213 rfl)) (by decide) (t := (.array .int)) (t' := (.array .int)) (by decide) (by decide))))
       have F269 := ((((F202.keep Kq222).keep Kq233).ext E238).wr W243)
       have nq270 := ne_exa F269 F262 (by decide)
       have F271 := ((((F203.keep Kq222 nin0).keep Kq233 (ninS (Ne.symm nl260) nin0)).ext E238).other W243 nq270)
       have F272 := ((((F204.keep Kq222).keep Kq233).ext E238).wr W243)
       have nq273 := ne_exa F272 F262 (by decide)
       have F274 := ((((F205.keep Kq222 nin0).keep Kq233 (ninS nl257 nin0)).ext E238).other W243 nq273)
       have F275 := ((((F212.keep Kq222).keep Kq233).ext E238).wr W243)
       have F277 := (F241.wr W243)
       have nq276 := ne_exa F275 F277 (by decide)
       have nq278 := ne_exa F275 F262 (by decide)
       have F279 := ((((F213.keep Kq222 nin0).keep Kq233 (ninS nq276 nin0)).ext E238).other W243 (Or.inl nq278))
       have F280 := ((F236.ext E238).other W243 (Ne.symm nq240))
       have F281 := (Ax238.wr W243)
       have nq282 := ne_exa F281 F262 (by decide)
       have F283 := (V238.other W243 nq282)
       have LP252 : ∀ (fu253 : Nat) (T244 : State) (L245 : List Loc) (h246 : Heap) (z254 : Int32) (gg255 : Nat → Int32), fu253 = (z163).toNatClampNeg - (z254).toNatClampNeg → Stand p l e ({ frames := 5, cells := 6, slots := 25, locals := 79 } : Room) s m #[(.ref a0), (.ref a1), (.ref a2)] below meth c T244 L245 6 25 → T244.heap = h246 → Fr n0 L245 → Keep h0 h246 [key0, key1, key2, key3, key4, a0, a2] → n0 ≤ h246.size → Exa Z h246 a0 "com/example/libacross/libacross/eval/JudgedRanking" → Exa Z h246 key0 "java/lang/String" → Exa Z h246 key1 "java/lang/String" → Exa Z h246 key2 "java/lang/String" → Exa Z h246 key3 "java/lang/String" → Exa Z h246 key4 "java/lang/String" → Fld Z h246 a0 "com/example/libacross/libacross/eval/JudgedRanking" "relevance" "[I" (.ref b3) → Fld Z h246 a0 "com/example/libacross/libacross/eval/JudgedRanking" "idealGains" "[I" (.ref b238) → Exa Z h246 b3 "[I" → qA Z h246 b3 k3 .int Nn (fun i => .int (gg18 i)) → Exa Z h246 b122 "[I" → qA Z h246 b122 k122 .int Sz120 (fun i => .int (gg164 i)) → Exa Z h246 b131 "java/util/HashMap$Values" → Fld Z h246 b131 "java/util/HashMap$Values" "this$0" "Ljava/util/HashMap;" (.ref a2) → Exa Z h246 b223 "[I" → qA Z h246 b223 b224 .int z163 (fun i => .int (b234 i)) → Exa Z h246 b238 "[I" → qA Z h246 b238 k238 .int z163 (fun i => .int (gg255 i)) → (¬ (z254 < (0 : Int32))) → qG p e below (own_Fin s 6 25 (Qjri Z Nn key0 key1 key2 key3 key4 Cc Xx Lo f_CA k_CA fn_CA f_CS a0 a1 a2 f_a0_relevance f_a0_idealGains h0 n0)) (T244.setTop (mkF m 159 #[vR a0, vR a1, vR a2, vI z163, vR b122, vR b223, vI z254] [])) := by
        intro fu253
        induction fu253 using Nat.strongRecOn with
        | _ fu253 ihfu253 =>
         intro T244 L245 h246 z254 gg255 hfu303 X247 e248 N249 K250 Z251 F284 F285 F286 F287 F288 F289 F290 F291 F292 F293 F294 F295 F296 F297 F298 F299 F300 F301 hi302
         refine qb (fun _ k => XS.iload X247.here hx rfl (Y 70 rfl) rfl k) ?_
         refine qb (fun _ k => XS.iloadN X247.here hx rfl (Y 71 rfl) rfl k) ?_
         by_cases c304 : z254 < z163
         ·skip
          refine qb (fun _ k => XS.icmpNo X247.here hx rfl (Y 72 rfl) rfl (tlt c304).2.1 k) ?_
          show qG p e below _ (T244.setTop (mkF m 165 #[vR a0, vR a1, vR a2, vI z163, vR b122, vR b223, vI z254] []))
          refine qb (fun _ k => XS.aloadN X247.here hx rfl (Y 73 rfl) rfl rfl k) ?_
          obtain ⟨T305, X305, e305, st305⟩ := getF X247 hx hZ hown (host := "") (Or.inl (hwd 212 rfl)) Via.refl e248 F291 (g := (mkF m 166 #[vR a0, vR a1, vR a2, vI z163, vR b122, vR b223, vI z254] [(.ref a0)])) rfl rfl (Y 74 rfl)
          refine qb st305 ?_
          refine qb (fun _ k => XS.iload X305.here hx rfl (Y 75 rfl) rfl k) ?_
          refine qb (fun _ k => XS.aload X305.here hx rfl (Y 76 rfl) rfl rfl k) ?_
          refine qb (fun _ k => XS.iloadN X305.here hx rfl (Y 77 rfl) rfl k) ?_
          refine qb (fun _ k => XS.iconst X305.here hx rfl (Y 78 rfl) k) ?_
          refine qb (fun _ k => XS.isub X305.here hx rfl (Y 79 rfl) rfl k) ?_
          refine qb (fun _ k => XS.iload X305.here hx rfl (Y 80 rfl) rfl k) ?_
          refine qb (fun _ k => XS.isub X305.here hx rfl (Y 81 rfl) rfl k) ?_
          obtain ⟨cl306, Ar306, qq306, S306, M306, H306, G306⟩ := id F299
          have hin306 : ¬ (((z163 - (1 : Int32)) - z254) < 0 ∨ cl306.slots.size ≤ (((z163 - (1 : Int32)) - z254)).toNatClampNeg) := inb_of S306 (ob_jri_81 Nn Cc Xx f_CS z17 gg18 Sz120 Tw120 jj152 z163 gh165 o225 z254 hn0 hn5 hn_CS hi61 c65 hr120 hz120 hz120' hj152' hi218 hp231 hp237 hi302 c304)
          refine qb (fun t k => X305.iaload hx (j := ((z163 - (1 : Int32)) - z254)) (v := (.int (b234 (((z163 - (1 : Int32)) - z254)).toNatClampNeg))) (by rw [e305]; exact Ar306.1) (State.isArrayOf_alike hZ.alike Ar306.2.1) Ar306.2.2 hin306 (H306 _ (Nat.lt_of_not_le fun y => hin306 (Or.inr y))) (g := (mkF m 179 #[vR a0, vR a1, vR a2, vI z163, vR b122, vR b223, vI z254] [(.int ((z163 - (1 : Int32)) - z254)), (.ref b223), (.int z254), (.ref b238)])) rfl rfl (Y 82 rfl) _ k) ?_
          show qG p e below _ (T305.setTop (mkF m 180 #[vR a0, vR a1, vR a2, vI z163, vR b122, vR b223, vI z254] [(.int (b234 (((z163 - (1 : Int32)) - z254)).toNatClampNeg)), (.int z254), (.ref b238)]))
          obtain ⟨cl307, Ar307, qq307, S307, M307, H307, G307⟩ := id F301
          have hin307 : ¬ (z254 < 0 ∨ cl307.slots.size ≤ (z254).toNatClampNeg) := inb_of S307 (ob_jri_82 Nn Cc Xx f_CS z17 gg18 Sz120 Tw120 jj152 z163 gh165 o225 z254 hn0 hn5 hn_CS hi61 c65 hr120 hz120 hz120' hj152' hi218 hp231 hp237 hi302 c304)
          obtain ⟨T308, h308, X308, e308, W308, st308⟩ := stI X305 hx hZ e305 Ar307 (j := z254) hin307 (g := (mkF m 180 #[vR a0, vR a1, vR a2, vI z163, vR b122, vR b223, vI z254] [(.int (b234 (((z163 - (1 : Int32)) - z254)).toNatClampNeg)), (.int z254), (.ref b238)])) rfl rfl (Y 83 rfl)
          have V308 : qA Z h308 b238 k238 .int z163 (fun i => .int ((qu gg255 (z254).toNatClampNeg (b234 (((z163 - (1 : Int32)) - z254)).toNatClampNeg)) i)) := own_arfSetI Ar307 qq307 S307 M307 H307 G307 rfl W308
          have K308 : Keep h0 h308 [key0, key1, key2, key3, key4, a0, a2] := K250.wr W308 (Or.inr sz_b238)
          have Z308 := ql Z251 (Keep.of_wr W308).1
          have N308 := Fr.snoc X308 N249 ge_b238
          refine qb st308 ?_
          show qG p e below _ (T308.setTop (mkF m 181 #[vR a0, vR a1, vR a2, vI z163, vR b122, vR b223, vI z254] []))
          refine qb (fun _ k => XS.iinc X308.here hx rfl (Y 84 rfl) rfl (l' := #[vR a0, vR a1, vR a2, vI z163, vR b122, vR b223, vI (z254 + (1 : Int32))]) rfl k) ?_
          show qG p e below _ (T308.setTop (mkF m 184 #[vR a0, vR a1, vR a2, vI z163, vR b122, vR b223, vI (z254 + (1 : Int32))] []))
          refine qb (fun _ k => XS.goto X308.here hx rfl (pc0 := 184) (pc' := 159) rfl (Y 85 rfl) (by decide) (by decide) k) ?_
          show qG p e below _ (T308.setTop (mkF m 159 #[vR a0, vR a1, vR a2, vI z163, vR b122, vR b223, vI (z254 + (1 : Int32))] []))
          have F309 := (F284.wr W308)
          have F310 := (F285.wr W308)
          have F311 := (F286.wr W308)
          have F312 := (F287.wr W308)
          have F313 := (F288.wr W308)
          have F314 := (F289.wr W308)
          have F316 := (F300.wr W308)
          have nq315 := ne_exa F309 F316 (by decide)
          have F317 := (F290.other W308 (Or.inl nq315))
          have F318 := (F291.other W308 (Or.inl nq315))
          have F319 := (F292.wr W308)
          have F320 := (F293.other W308 (Ne.symm nl261))
          have F321 := (F294.wr W308)
          have F322 := (F295.other W308 nl258)
          have F323 := (F296.wr W308)
          have nq324 := ne_exa F323 F316 (by decide)
          have F325 := (F297.other W308 (Or.inl nq324))
          have F326 := (F298.wr W308)
          have F327 := (F299.other W308 nl259)
          exact ihfu253 _ (by rw [hfu303]; exact (ob_jri_83 Nn Cc Xx f_CS z17 gg18 Sz120 Tw120 jj152 z163 gh165 o225 z254 hn0 hn5 hn_CS hi61 c65 hr120 hz120 hz120' hj152' hi218 hp231 hp237 hi302 c304)) _ _ _ (z254 + (1 : Int32)) (qu gg255 (z254).toNatClampNeg (b234 (((z163 - (1 : Int32)) - z254)).toNatClampNeg)) rfl X308 e308 N308 K308 Z308 F309 F310 F311 F312 F313 F314 F317 F318 F319 F320 F321 F322 F323 F325 F326 F327 F316 V308 (ob_jri_84 Nn Cc Xx f_CS z17 gg18 Sz120 Tw120 jj152 z163 gh165 o225 z254 hn0 hn5 hn_CS hi61 c65 hr120 hz120 hz120' hj152' hi218 hp231 hp237 hi302 c304)
         ·skip
          refine qb (fun _ k => XS.icmpYes X247.here hx rfl (pc0 := 162) (pc' := 187) rfl (Y 72 rfl) rfl (flt c304).2.1 (by decide) (by decide) k) ?_
          show qG p e below _ (T244.setTop (mkF m 187 #[vR a0, vR a1, vR a2, vI z163, vR b122, vR b223, vI z254] []))
          exact own_ret0 X247 hx hrt (Y 86 rfl) hlk e248 ⟨b3, k3, gg18, rfl, N249, K250, ge_b3, sz_b3, F284, F290, F292, F293, (ob_jri_85 Nn Cc Xx f_CS z17 gg18 Sz120 Tw120 jj152 z163 gh165 o225 z254 hn0 hn5 hn_CS hi61 c65 hr120 hz120 hz120' hj152' hi218 hp231 hp237 hi302 c304)⟩ (by decide) (by decide)
       exact LP252 _ _ _ _ (0 : Int32) (fun _ => (0 : Int32)) rfl X243 e243 N243 K243 Z243 F262 F263 F264 F265 F266 F267 F268 Fw243 F269 F271 F272 F274 F275 F279 F277 F280 F281 F283 (ob_jri_86 Nn Cc Xx f_CS z17 gg18 Sz120 Tw120 jj152 z163 gh165 o225 hn0 hn5 hn_CS hi61 c65 hr120 hz120 hz120' hj152' hi218 hp231 hp237)
      ·skip
       have Fy220 : Fld Z h155 a2 cHM "table" cNA (.ref tt220) := by rw [← hT220]; exact F207
       have hlt220 : z163 < Sz120 := own_cb q4220 q3220 q5220
       show qG p e below _ (T153.setTop (mkF m 93 #[vR a0, vR a1, vR a2, vI z163, vR b122, vR b145, sl166] []))
       refine qb (fun _ k => XS.aload X156.here hx rfl (Y 41 rfl) rfl rfl k) ?_
       obtain ⟨_, T328, Lc328, X328, hQ328, st328⟩ := own_cF (xi := (⟨"java/util/Iterator", "hasNext", "()Z"⟩ : MethodName)) X156 hx hZ hown hml (rmhnS l Z A0 hw [] nd220 b145 h155 n0 Z160 F214 Fn220) (hwd 177 rfl) (hwd 181 rfl) (hwd 160 rfl) (hwd 185 rfl) (by decide) pd_177 e157 (hwd 178 rfl) (hwd 179 rfl) rfl (hwd 180 rfl) (hwd 182 rfl) (hwd 183 rfl) (hwd 184 rfl) F214 (g := (mkF m 95 #[vR a0, vR a1, vR a2, vI z163, vR b122, vR b145, sl166] [(.ref b145)])) (rest := []) rfl rfl rfl rfl (Y 42 rfl) rfl
       obtain ⟨rfl, Nq328, eq328⟩ := hQ328
       have N328 := Fr.app N158 Nq328
       refine qb st328 ?_
       show qG p e below _ (T328.setTop (mkF m 100 #[vR a0, vR a1, vR a2, vI z163, vR b122, vR b145, sl166] [(.int 1)]))
       refine qb (fun _ k => XS.ifNo X328.here hx rfl (Y 43 rfl) rfl ((if0 _ _).trans (feq (by decide : ¬ ((1 : Int32) = (0 : Int32)))).1) k) ?_
       show qG p e below _ (T328.setTop (mkF m 103 #[vR a0, vR a1, vR a2, vI z163, vR b122, vR b145, sl166] []))
       refine qb (fun _ k => XS.aload X328.here hx rfl (Y 44 rfl) rfl rfl k) ?_
       obtain ⟨_, T329, Lc329, X329, hQ329, st329⟩ := own_cF (xi := (⟨"java/util/Iterator", "next", "()Ljava/lang/Object;"⟩ : MethodName)) X328 hx hZ hown hml (rmnxt l Z A0 hw [] nd220 a2 tt220 kt220 gt220 ix220 Mc120 Tw120 Sz120 (z163).toInt gh165 bd220 b145 cv220 h155 n0 Z160 F214 Fn220 Fx220 F215 F216 F194 F209 Fy220 Et220 Vt220 Tb220 N220.1 N220.2.2.2.2.1 hT220 q1220 q2220 q3220 q4220 q5220 N220.2.2.2.1 Fc220 hp146) (hwd 378 rfl) (hwd 382 rfl) (hwd 151 rfl) (hwd 385 rfl) (by decide) pd_190 eq328 (hwd 379 rfl) (hwd 380 rfl) rfl (hwd 381 rfl) (hwd 383 rfl) (hwd 384 rfl) (hwd 184 rfl) F214 (g := (mkF m 105 #[vR a0, vR a1, vR a2, vI z163, vR b122, vR b145, sl166] [(.ref b145)])) (rest := []) rfl rfl rfl rfl (Y 45 rfl) rfl
       obtain ⟨rfl, Nq329, Kq329, F330, F331, F332, F333⟩ := hQ329
       have N329 := Fr.app N328 Nq329
       have K329 : Keep h0 T329.heap [key0, key1, key2, key3, key4, a0, a2] := K159.trans Kq329 ((allS (Or.inr sz_b145) all0))
       have Z329 := ql Z160 Kq329.1
       refine qb st329 ?_
       show qG p e below _ (T329.setTop (mkF m 110 #[vR a0, vR a1, vR a2, vI z163, vR b122, vR b145, sl166] [(.ref bd220)]))
       have F334 := (N220.2.2.2.2.2.1.keep Kq329)
       obtain ⟨T335, X335, e335, st335⟩ := castY X329 hx hZ hown (hwd 297 rfl) rfl (Ins.self F334) (g := (mkF m 110 #[vR a0, vR a1, vR a2, vI z163, vR b122, vR b145, sl166] [(.ref bd220)])) rfl rfl (Y 46 rfl)
       refine qb st335 ?_
       show qG p e below _ (T335.setTop (mkF m 113 #[vR a0, vR a1, vR a2, vI z163, vR b122, vR b145, sl166] [(.ref bd220)]))
       have nq336 := ne_exa F334 F330 (by decide)
       have F337 := (N220.2.2.2.2.2.2.keep Kq329 (ninS nq336 nin0))
       obtain ⟨_, T338, Lc338, X338, hQ338, st338⟩ := own_cV X335 hx hZ hown hml (rmiv l Z A0 hw [] bd220 xx220 T329.heap n0 Z329 F334 F337) (hwd 299 rfl) (hwd 301 rfl) (hwd 278 rfl) (hwd 303 rfl) (by decide) pd_93 e335 (hwd 300 rfl) (hwd 302 rfl) F334 (g := (mkF m 113 #[vR a0, vR a1, vR a2, vI z163, vR b122, vR b145, sl166] [(.ref bd220)])) (rest := []) rfl rfl rfl rfl (Y 47 rfl) rfl
       obtain ⟨rfl, Nq338, eq338⟩ := hQ338
       have N338 := Fr.app N329 Nq338
       refine qb st338 ?_
       show qG p e below _ (T338.setTop (mkF m 116 #[vR a0, vR a1, vR a2, vI z163, vR b122, vR b145, sl166] [(.int xx220)]))
       refine qb (fun _ k => XS.istore X338.here hx rfl (Y 48 rfl) rfl (l' := #[vR a0, vR a1, vR a2, vI z163, vR b122, vR b145, vI xx220]) (by rcases hd167 with rfl | ⟨_, rfl⟩ <;> rfl) k) ?_
       show qG p e below _ (T338.setTop (mkF m 118 #[vR a0, vR a1, vR a2, vI z163, vR b122, vR b145, vI xx220] []))
       refine qb (fun _ k => XS.iload X338.here hx rfl (Y 49 rfl) rfl k) ?_
       refine qb (fun _ k => XS.iconst X338.here hx rfl (Y 50 rfl) k) ?_
       by_cases c339 : xx220 < (1 : Int32)
       ·skip
        refine qb (fun _ k => XS.icmpYes X338.here hx rfl (pc0 := 121) (pc' := 133) rfl (Y 51 rfl) rfl (tlt c339).1 (by decide) (by decide) k) ?_
        show qG p e below _ (T338.setTop (mkF m 133 #[vR a0, vR a1, vR a2, vI z163, vR b122, vR b145, vI xx220] []))
        refine qb (fun _ k => XS.goto X338.here hx rfl (pc0 := 133) (pc' := 93) rfl (Y 57 rfl) (by decide) (by decide) k) ?_
        show qG p e below _ (T338.setTop (mkF m 93 #[vR a0, vR a1, vR a2, vI z163, vR b122, vR b145, vI xx220] []))
        obtain ⟨jj340, hj340, hj340', It340⟩ := F333
        have It340' := own_It.mono (c' := (z163).toInt) It340 (Int.le_add_one (Int.le_refl _))
        have F342 := (F194.keep Kq329)
        have nq341 := ne_exa F342 F330 (by decide)
        have F343 := (Fy220.keep Kq329 (ninS nq341 nin0))
        have Fz340 : Fld Z T329.heap a2 cHM "table" cNA Tw120 := by rw [hT220]; exact F343
        have F344 := (F193.keep Kq329)
        have F345 := (F195.keep Kq329)
        have F346 := (F196.keep Kq329)
        have F347 := (F197.keep Kq329)
        have F348 := (F198.keep Kq329)
        have F349 := (F199.keep Kq329)
        have nq350 := ne_exa F344 F330 (by decide)
        have F351 := (F200.keep Kq329 (ninS nq350 nin0))
        have F352 := (F201.keep Kq329 (ninS nq350 nin0))
        have F353 := (F202.keep Kq329)
        have nq354 := ne_exa F353 F330 (by decide)
        have F355 := (F203.keep Kq329 (ninS nq354 nin0))
        have F356 := (F204.keep Kq329)
        have nq357 := ne_exa F356 F330 (by decide)
        have F358 := (F205.keep Kq329 (ninS nq357 nin0))
        have F359 := (F206.keep Kq329 (ninS nq341 nin0))
        have F360 := (F208.keep Kq329 (ninS nq341 nin0))
        have F361 := (F209.keep Kq329 (ninS nq341 nin0))
        have F362 := (F210.keep Kq329 (ninS nq341 nin0))
        have F363 := (F211.keep Kq329 (ninS nq341 nin0))
        have F364 := (F212.keep Kq329)
        have nq365 := ne_exa F364 F330 (by decide)
        have F366 := (F213.keep Kq329 (ninS nq365 nin0))
        exact ihfu162 _ (by rw [hfu219]; exact (ob_jri_87 Nn Cc Xx f_CS z17 gg18 Sz120 Tw120 jj152 z163 gh165 tt220 gt220 ix220 xx220 jj340 hn0 hn5 hn_CS hi61 c65 hr120 hz120 hz120' hj152' hi218 hT220 q1220 q2220 q3220 q4220 q5220 hlt220 c339 hj340 hj340')) _ _ _ z163 gg164 jj340 (.val (.int xx220) : Slot) rfl X338 eq338 N338 K329 Z329 F344 F342 F345 F346 F347 F348 F349 F351 F352 F353 F355 F356 F358 F359 Fz340 F360 F361 F362 F363 F364 F366 F330 F331 F332 It340' (Or.inr ⟨_, rfl⟩) (ob_jri_88 Nn Cc Xx f_CS z17 gg18 Sz120 Tw120 jj152 z163 gh165 tt220 gt220 ix220 xx220 jj340 hn0 hn5 hn_CS hi61 c65 hr120 hz120 hz120' hj152' hi218 hT220 q1220 q2220 q3220 q4220 q5220 hlt220 c339 hj340 hj340')
       ·skip
        refine qb (fun _ k => XS.icmpNo X338.here hx rfl (Y 51 rfl) rfl (flt c339).1 k) ?_
        show qG p e below _ (T338.setTop (mkF m 124 #[vR a0, vR a1, vR a2, vI z163, vR b122, vR b145, vI xx220] []))
        refine qb (fun _ k => XS.aload X338.here hx rfl (Y 52 rfl) rfl rfl k) ?_
        refine qb (fun _ k => XS.iloadN X338.here hx rfl (Y 53 rfl) rfl k) ?_
        refine qb (fun _ k => XS.iload X338.here hx rfl (Y 54 rfl) rfl k) ?_
        have F368 := (F204.keep Kq329)
        have nq367 := ne_exa F368 F330 (by decide)
        have F369 := (F205.keep Kq329 (ninS nq367 nin0))
        obtain ⟨cl370, Ar370, qq370, S370, M370, H370, G370⟩ := id F369
        have hin370 : ¬ (z163 < 0 ∨ cl370.slots.size ≤ (z163).toNatClampNeg) := inb_of S370 (ob_jri_89 Nn Cc Xx f_CS z17 gg18 Sz120 Tw120 jj152 z163 gh165 tt220 gt220 ix220 xx220 hn0 hn5 hn_CS hi61 c65 hr120 hz120 hz120' hj152' hi218 hT220 q1220 q2220 q3220 q4220 q5220 hlt220 c339)
        obtain ⟨T371, h371, X371, e371, W371, st371⟩ := stI X338 hx hZ eq338 Ar370 (j := z163) hin370 (g := (mkF m 129 #[vR a0, vR a1, vR a2, vI z163, vR b122, vR b145, vI xx220] [(.int xx220), (.int z163), (.ref b122)])) rfl rfl (Y 55 rfl)
        have V371 : qA Z h371 b122 k122 .int Sz120 (fun i => .int ((qu gg164 (z163).toNatClampNeg xx220) i)) := own_arfSetI Ar370 qq370 S370 M370 H370 G370 rfl W371
        have K371 : Keep h0 h371 [key0, key1, key2, key3, key4, a0, a2] := K329.wr W371 (Or.inr sz_b122)
        have Z371 := ql Z329 (Keep.of_wr W371).1
        have N371 := Fr.snoc X371 N338 ge_b122
        refine qb st371 ?_
        show qG p e below _ (T371.setTop (mkF m 130 #[vR a0, vR a1, vR a2, vI z163, vR b122, vR b145, vI xx220] []))
        refine qb (fun _ k => XS.iinc X371.here hx rfl (Y 56 rfl) rfl (l' := #[vR a0, vR a1, vR a2, vI (z163 + (1 : Int32)), vR b122, vR b145, vI xx220]) rfl k) ?_
        show qG p e below _ (T371.setTop (mkF m 133 #[vR a0, vR a1, vR a2, vI (z163 + (1 : Int32)), vR b122, vR b145, vI xx220] []))
        refine qb (fun _ k => XS.goto X371.here hx rfl (pc0 := 133) (pc' := 93) rfl (Y 57 rfl) (by decide) (by decide) k) ?_
        show qG p e below _ (T371.setTop (mkF m 93 #[vR a0, vR a1, vR a2, vI (z163 + (1 : Int32)), vR b122, vR b145, vI xx220] []))
        have F373 := (F333.keep (Keep.of_wr W371) (allS (qo (F204.keep Kq329) (by decide)) all0))
        obtain ⟨jj372, hj372, hj372', It372⟩ := F373
        have It372' := own_It.mono (c' := ((z163 + (1 : Int32))).toInt) It372 (Int.le_of_eq (own_inc hlt220))
        have F375 := ((F194.keep Kq329).wr W371)
        have F376 := (F330.wr W371)
        have nq374 := ne_exa F375 F376 (by decide)
        have F378 := (F368.wr W371)
        have nq377 := ne_exa F375 F378 (by decide)
        have F379 := ((Fy220.keep Kq329 (ninS nq374 nin0)).other W371 (Or.inl nq377))
        have Fz372 : Fld Z h371 a2 cHM "table" cNA Tw120 := by rw [hT220]; exact F379
        have F380 := ((F193.keep Kq329).wr W371)
        have F381 := ((F195.keep Kq329).wr W371)
        have F382 := ((F196.keep Kq329).wr W371)
        have F383 := ((F197.keep Kq329).wr W371)
        have F384 := ((F198.keep Kq329).wr W371)
        have F385 := ((F199.keep Kq329).wr W371)
        have nq386 := ne_exa F380 F376 (by decide)
        have nq387 := ne_exa F380 F378 (by decide)
        have F388 := ((F200.keep Kq329 (ninS nq386 nin0)).other W371 (Or.inl nq387))
        have F389 := ((F201.keep Kq329 (ninS nq386 nin0)).other W371 (Or.inl nq387))
        have F390 := ((F202.keep Kq329).wr W371)
        have nq391 := ne_exa F390 F376 (by decide)
        have F392 := ((F203.keep Kq329 (ninS nq391 nin0)).other W371 (Ne.symm nl168))
        have F393 := ((F206.keep Kq329 (ninS nq374 nin0)).other W371 (Or.inl nq377))
        have F394 := ((F208.keep Kq329 (ninS nq374 nin0)).other W371 (Or.inl nq377))
        have F395 := ((F209.keep Kq329 (ninS nq374 nin0)).other W371 (Or.inl nq377))
        have F396 := ((F210.keep Kq329 (ninS nq374 nin0)).other W371 (Or.inl nq377))
        have F397 := ((F211.keep Kq329 (ninS nq374 nin0)).other W371 (Or.inl nq377))
        have F398 := ((F212.keep Kq329).wr W371)
        have nq399 := ne_exa F398 F376 (by decide)
        have nq400 := ne_exa F398 F378 (by decide)
        have F401 := ((F213.keep Kq329 (ninS nq399 nin0)).other W371 (Or.inl nq400))
        have F402 := (F331.other W371 (Or.inl (Ne.symm nq367)))
        have F403 := (F332.other W371 (Or.inl (Ne.symm nq367)))
        exact ihfu162 _ (by rw [hfu219]; exact (ob_jri_90 Nn Cc Xx f_CS z17 gg18 Sz120 Tw120 jj152 z163 gh165 tt220 gt220 ix220 xx220 jj372 hn0 hn5 hn_CS hi61 c65 hr120 hz120 hz120' hj152' hi218 hT220 q1220 q2220 q3220 q4220 q5220 hlt220 c339 hj372 hj372')) _ _ _ (z163 + (1 : Int32)) (qu gg164 (z163).toNatClampNeg xx220) jj372 (.val (.int xx220) : Slot) rfl X371 e371 N371 K371 Z371 F380 F375 F381 F382 F383 F384 F385 F388 F389 F390 F392 F378 V371 F393 Fz372 F394 F395 F396 F397 F398 F401 F376 F402 F403 It372' (Or.inr ⟨_, rfl⟩) (ob_jri_91 Nn Cc Xx f_CS z17 gg18 Sz120 Tw120 jj152 z163 gh165 tt220 gt220 ix220 xx220 jj372 hn0 hn5 hn_CS hi61 c65 hr120 hz120 hz120' hj152' hi218 hT220 q1220 q2220 q3220 q4220 q5220 hlt220 c339 hj372 hj372')
    exact LP161 _ _ _ _ (0 : Int32) (fun _ => (0 : Int32)) jj152 .unset rfl X144 rfl N144 K144 Z144 F169 F170 F171 F172 F173 F174 F175 F177 F178 F179 F181 F182 F184 F185 F186 F187 F188 F189 F190 F191 F192 F148 F149 F150 It152' (Or.inl rfl) (ob_jri_92 Nn Cc Xx f_CS z17 gg18 Sz120 Tw120 jj152 hn0 hn5 hn_CS hi61 c65 hr120 hz120 hz120' hj152')
 exact LP15 _ _ _ _ (0 : Int32) (fun _ => (0 : Int32)) rfl X6 e6 N6 K6 Z6 F20 F21 F22 F24 F25 F26 F27 F28 F29 F30 F31 F32 F33 F34 F35 F36 Fw6 F37 F38 F40 (ob_jri_93 Nn Cc Xx f_CS hn0 hn5 hn_CS)
theorem d43 : own_ds prog_4_method_10_code [(0, .aload_n 0, 1), (1, .getfield 13, 3), (4, .iload_n 1, 1), (5, .iconst 1, 1), (6, .isub, 1), (7, .iaload, 1), (8, .iconst 1, 1), (9, .if_icmp .lt 7, 3), (12, .iconst 1, 1), (13, .goto 4, 3), (16, .iconst 0, 1), (17, .ireturn, 1)] = true := by decide +kernel
theorem ef_isr1 (m : MethodId) (a0 : Addr) : entryFrame m #[(.ref a0), (.int 1)] 2 = mkF m 0 #[vR a0, vI 1] [] := rfl
theorem ob_isr1_94 (n_t_a0 : Int32) (fn_t_a0 : Nat → Int32) (hn5 : n_t_a0 < (5 : Int32)) (hib : (¬ (0 : Int32) < 0) ∧ (0 : Int32) < n_t_a0) (c3 : (fn_t_a0 0) < (1 : Int32)) : ((0 : Int32) = (0 : Int32) ∧ (fn_t_a0 0) < (1 : Int32)) ∨ ((0 : Int32) = (1 : Int32) ∧ ¬ ((fn_t_a0 0) < (1 : Int32))) := by
  first | exact Or.inl ⟨rfl, by assumption⟩ | exact Or.inr ⟨rfl, by assumption⟩
theorem ob_isr1_95 (n_t_a0 : Int32) (fn_t_a0 : Nat → Int32) (hn5 : n_t_a0 < (5 : Int32)) (hib : (¬ (0 : Int32) < 0) ∧ (0 : Int32) < n_t_a0) (c3 : ¬ ((fn_t_a0 0) < (1 : Int32))) : ((1 : Int32) = (0 : Int32) ∧ (fn_t_a0 0) < (1 : Int32)) ∨ ((1 : Int32) = (1 : Int32) ∧ ¬ ((fn_t_a0 0) < (1 : Int32))) := by
  first | exact Or.inl ⟨rfl, by assumption⟩ | exact Or.inr ⟨rfl, by assumption⟩
def Qisr1 (Z : State) (t_a0 : Addr) (k_t_a0 : ClassId) (n_t_a0 : Int32) (fn_t_a0 : Nat → Int32) (a0 : Addr) (h0 : Heap) (n0 : Nat) (v : Option Value) (h : Heap) (L : List Loc) : Prop := ∃ (zz : Int32), v = some (.int zz) ∧ Fr n0 L ∧ h = h0 ∧ ((zz = (0 : Int32) ∧ (fn_t_a0 0) < (1 : Int32)) ∨ (zz = (1 : Int32) ∧ ¬ ((fn_t_a0 0) < (1 : Int32))))
theorem rmisr1 (l : Launch) (Z : State) (A0 : Array Value) (hw : ∀ d ∈ tables_1, d.before A0 Z = true) (ws : List Jvm.Cond) (t_a0 : Addr) (k_t_a0 : ClassId) (n_t_a0 : Int32) (fn_t_a0 : Nat → Int32) (a0 : Addr) (h0 : Heap) (n0 : Nat) (Z0 : n0 ≤ h0.size) (P_E_a0 : Exa Z h0 a0 "com/example/libacross/libacross/eval/JudgedRanking") (P_F_a0_relevance : Fld Z h0 a0 "com/example/libacross/libacross/eval/JudgedRanking" "relevance" "[I" (.ref t_a0)) (P_V_t_a0 : qA Z h0 t_a0 k_t_a0 .int n_t_a0 (fun i => .int (fn_t_a0 i))) (hn5 : n_t_a0 < (5 : Int32)) (hib : (¬ (0 : Int32) < 0) ∧ (0 : Int32) < n_t_a0) :
  qM l Z (⟨"com/example/libacross/libacross/eval/JudgedRanking", "isRelevant", "(I)Z"⟩ : MethodName) prog_4_method_10_code 2 (some .boolean) ws ({ frames := 0, cells := 0, slots := 0, locals := 0 } : Room) #[(.ref a0), (.int 1)] h0 (Qisr1 Z t_a0 k_t_a0 n_t_a0 fn_t_a0 a0 h0 n0) 0 0 := qe d43 (plainFor_of_name pn_jri) (fun m => ef_isr1 m a0) fun p e s m below meth c s₁ hx Y hml hlk hown hnm X0 e0 hZ hrt => by
 have hwd := qw hw
 have N0 := Fr.nil n0
 show qG p e below _ (s₁.setTop (mkF m 0 #[vR a0, vI 1] []))
 refine qb (fun _ k => XS.aloadN X0.here hx rfl (Y 0 rfl) rfl rfl k) ?_
 obtain ⟨T1, X1, e1, st1⟩ := getF X0 hx hZ hown (host := "") (Or.inl (hwd 105 rfl)) Via.refl e0 P_F_a0_relevance (g := (mkF m 1 #[vR a0, vI 1] [(.ref a0)])) rfl rfl (Y 1 rfl)
 refine qb st1 ?_
 refine qb (fun _ k => XS.iloadN X1.here hx rfl (Y 2 rfl) rfl k) ?_
 refine qb (fun _ k => XS.iconst X1.here hx rfl (Y 3 rfl) k) ?_
 refine qb (fun _ k => XS.isub X1.here hx rfl (Y 4 rfl) rfl k) ?_
 obtain ⟨cl2, Ar2, qq2, S2, M2, H2, G2⟩ := id P_V_t_a0
 have hin2 : ¬ ((0 : Int32) < 0 ∨ cl2.slots.size ≤ ((0 : Int32)).toNatClampNeg) := inb_of S2 hib
 refine qb (fun t k => X1.iaload hx (j := (0 : Int32)) (v := (.int (fn_t_a0 0))) (by rw [e1]; exact Ar2.1) (State.isArrayOf_alike hZ.alike Ar2.2.1) Ar2.2.2 hin2 (H2 _ (Nat.lt_of_not_le fun y => hin2 (Or.inr y))) (g := (mkF m 7 #[vR a0, vI 1] [(.int 0), (.ref t_a0)])) rfl rfl (Y 5 rfl) _ k) ?_
 show qG p e below _ (T1.setTop (mkF m 8 #[vR a0, vI 1] [(.int (fn_t_a0 0))]))
 refine qb (fun _ k => XS.iconst X1.here hx rfl (Y 6 rfl) k) ?_
 by_cases c3 : (fn_t_a0 0) < (1 : Int32)
 ·skip
  refine qb (fun _ k => XS.icmpYes X1.here hx rfl (pc0 := 9) (pc' := 16) rfl (Y 7 rfl) rfl (tlt c3).1 (by decide) (by decide) k) ?_
  show qG p e below _ (T1.setTop (mkF m 16 #[vR a0, vI 1] []))
  refine qb (fun _ k => XS.iconst X1.here hx rfl (Y 10 rfl) k) ?_
  exact own_retN X1 hx (t := .boolean) hrt (by simp) (Y 11 rfl) hlk e1 ⟨_, rfl, N0, rfl, (ob_isr1_94 n_t_a0 fn_t_a0 hn5 hib c3)⟩ (by decide) (by decide)
 ·skip
  refine qb (fun _ k => XS.icmpNo X1.here hx rfl (Y 7 rfl) rfl (flt c3).1 k) ?_
  show qG p e below _ (T1.setTop (mkF m 12 #[vR a0, vI 1] []))
  refine qb (fun _ k => XS.iconst X1.here hx rfl (Y 8 rfl) k) ?_
  refine qb (fun _ k => XS.goto X1.here hx rfl (pc0 := 13) (pc' := 17) rfl (Y 9 rfl) (by decide) (by decide) k) ?_
  show qG p e below _ (T1.setTop (mkF m 17 #[vR a0, vI 1] [(.int 1)]))
  exact own_retN X1 hx (t := .boolean) hrt (by simp) (Y 11 rfl) hlk e1 ⟨_, rfl, N0, rfl, (ob_isr1_95 n_t_a0 fn_t_a0 hn5 hib c3)⟩ (by decide) (by decide)
theorem ef_isr2 (m : MethodId) (a0 : Addr) : entryFrame m #[(.ref a0), (.int 2)] 2 = mkF m 0 #[vR a0, vI 2] [] := rfl
theorem ob_isr2_96 (n_t_a0 : Int32) (fn_t_a0 : Nat → Int32) (hn5 : n_t_a0 < (5 : Int32)) (hib : (¬ (1 : Int32) < 0) ∧ (1 : Int32) < n_t_a0) (c3 : (fn_t_a0 1) < (1 : Int32)) : ((0 : Int32) = (0 : Int32) ∧ (fn_t_a0 1) < (1 : Int32)) ∨ ((0 : Int32) = (1 : Int32) ∧ ¬ ((fn_t_a0 1) < (1 : Int32))) := by
  first | exact Or.inl ⟨rfl, by assumption⟩ | exact Or.inr ⟨rfl, by assumption⟩
theorem ob_isr2_97 (n_t_a0 : Int32) (fn_t_a0 : Nat → Int32) (hn5 : n_t_a0 < (5 : Int32)) (hib : (¬ (1 : Int32) < 0) ∧ (1 : Int32) < n_t_a0) (c3 : ¬ ((fn_t_a0 1) < (1 : Int32))) : ((1 : Int32) = (0 : Int32) ∧ (fn_t_a0 1) < (1 : Int32)) ∨ ((1 : Int32) = (1 : Int32) ∧ ¬ ((fn_t_a0 1) < (1 : Int32))) := by
  first | exact Or.inl ⟨rfl, by assumption⟩ | exact Or.inr ⟨rfl, by assumption⟩
def Qisr2 (Z : State) (t_a0 : Addr) (k_t_a0 : ClassId) (n_t_a0 : Int32) (fn_t_a0 : Nat → Int32) (a0 : Addr) (h0 : Heap) (n0 : Nat) (v : Option Value) (h : Heap) (L : List Loc) : Prop := ∃ (zz : Int32), v = some (.int zz) ∧ Fr n0 L ∧ h = h0 ∧ ((zz = (0 : Int32) ∧ (fn_t_a0 1) < (1 : Int32)) ∨ (zz = (1 : Int32) ∧ ¬ ((fn_t_a0 1) < (1 : Int32))))
theorem rmisr2 (l : Launch) (Z : State) (A0 : Array Value) (hw : ∀ d ∈ tables_1, d.before A0 Z = true) (ws : List Jvm.Cond) (t_a0 : Addr) (k_t_a0 : ClassId) (n_t_a0 : Int32) (fn_t_a0 : Nat → Int32) (a0 : Addr) (h0 : Heap) (n0 : Nat) (Z0 : n0 ≤ h0.size) (P_E_a0 : Exa Z h0 a0 "com/example/libacross/libacross/eval/JudgedRanking") (P_F_a0_relevance : Fld Z h0 a0 "com/example/libacross/libacross/eval/JudgedRanking" "relevance" "[I" (.ref t_a0)) (P_V_t_a0 : qA Z h0 t_a0 k_t_a0 .int n_t_a0 (fun i => .int (fn_t_a0 i))) (hn5 : n_t_a0 < (5 : Int32)) (hib : (¬ (1 : Int32) < 0) ∧ (1 : Int32) < n_t_a0) :
  qM l Z (⟨"com/example/libacross/libacross/eval/JudgedRanking", "isRelevant", "(I)Z"⟩ : MethodName) prog_4_method_10_code 2 (some .boolean) ws ({ frames := 0, cells := 0, slots := 0, locals := 0 } : Room) #[(.ref a0), (.int 2)] h0 (Qisr2 Z t_a0 k_t_a0 n_t_a0 fn_t_a0 a0 h0 n0) 0 0 := qe d43 (plainFor_of_name pn_jri) (fun m => ef_isr2 m a0) fun p e s m below meth c s₁ hx Y hml hlk hown hnm X0 e0 hZ hrt => by
 have hwd := qw hw
 have N0 := Fr.nil n0
 show qG p e below _ (s₁.setTop (mkF m 0 #[vR a0, vI 2] []))
 refine qb (fun _ k => XS.aloadN X0.here hx rfl (Y 0 rfl) rfl rfl k) ?_
 obtain ⟨T1, X1, e1, st1⟩ := getF X0 hx hZ hown (host := "") (Or.inl (hwd 105 rfl)) Via.refl e0 P_F_a0_relevance (g := (mkF m 1 #[vR a0, vI 2] [(.ref a0)])) rfl rfl (Y 1 rfl)
 refine qb st1 ?_
 refine qb (fun _ k => XS.iloadN X1.here hx rfl (Y 2 rfl) rfl k) ?_
 refine qb (fun _ k => XS.iconst X1.here hx rfl (Y 3 rfl) k) ?_
 refine qb (fun _ k => XS.isub X1.here hx rfl (Y 4 rfl) rfl k) ?_
 obtain ⟨cl2, Ar2, qq2, S2, M2, H2, G2⟩ := id P_V_t_a0
 have hin2 : ¬ ((1 : Int32) < 0 ∨ cl2.slots.size ≤ ((1 : Int32)).toNatClampNeg) := inb_of S2 hib
 refine qb (fun t k => X1.iaload hx (j := (1 : Int32)) (v := (.int (fn_t_a0 1))) (by rw [e1]; exact Ar2.1) (State.isArrayOf_alike hZ.alike Ar2.2.1) Ar2.2.2 hin2 (H2 _ (Nat.lt_of_not_le fun y => hin2 (Or.inr y))) (g := (mkF m 7 #[vR a0, vI 2] [(.int 1), (.ref t_a0)])) rfl rfl (Y 5 rfl) _ k) ?_
 show qG p e below _ (T1.setTop (mkF m 8 #[vR a0, vI 2] [(.int (fn_t_a0 1))]))
 refine qb (fun _ k => XS.iconst X1.here hx rfl (Y 6 rfl) k) ?_
 by_cases c3 : (fn_t_a0 1) < (1 : Int32)
 ·skip
  refine qb (fun _ k => XS.icmpYes X1.here hx rfl (pc0 := 9) (pc' := 16) rfl (Y 7 rfl) rfl (tlt c3).1 (by decide) (by decide) k) ?_
  show qG p e below _ (T1.setTop (mkF m 16 #[vR a0, vI 2] []))
  refine qb (fun _ k => XS.iconst X1.here hx rfl (Y 10 rfl) k) ?_
  exact own_retN X1 hx (t := .boolean) hrt (by simp) (Y 11 rfl) hlk e1 ⟨_, rfl, N0, rfl, (ob_isr2_96 n_t_a0 fn_t_a0 hn5 hib c3)⟩ (by decide) (by decide)
 ·skip
  refine qb (fun _ k => XS.icmpNo X1.here hx rfl (Y 7 rfl) rfl (flt c3).1 k) ?_
  show qG p e below _ (T1.setTop (mkF m 12 #[vR a0, vI 2] []))
  refine qb (fun _ k => XS.iconst X1.here hx rfl (Y 8 rfl) k) ?_
  refine qb (fun _ k => XS.goto X1.here hx rfl (pc0 := 13) (pc' := 17) rfl (Y 9 rfl) (by decide) (by decide) k) ?_
  show qG p e below _ (T1.setTop (mkF m 17 #[vR a0, vI 2] [(.int 1)]))
  exact own_retN X1 hx (t := .boolean) hrt (by simp) (Y 11 rfl) hlk e1 ⟨_, rfl, N0, rfl, (ob_isr2_97 n_t_a0 fn_t_a0 hn5 hib c3)⟩ (by decide) (by decide)
theorem ef_isr3 (m : MethodId) (a0 : Addr) : entryFrame m #[(.ref a0), (.int 3)] 2 = mkF m 0 #[vR a0, vI 3] [] := rfl
theorem ob_isr3_98 (n_t_a0 : Int32) (fn_t_a0 : Nat → Int32) (hn5 : n_t_a0 < (5 : Int32)) (hib : (¬ (2 : Int32) < 0) ∧ (2 : Int32) < n_t_a0) (c3 : (fn_t_a0 2) < (1 : Int32)) : ((0 : Int32) = (0 : Int32) ∧ (fn_t_a0 2) < (1 : Int32)) ∨ ((0 : Int32) = (1 : Int32) ∧ ¬ ((fn_t_a0 2) < (1 : Int32))) := by
  first | exact Or.inl ⟨rfl, by assumption⟩ | exact Or.inr ⟨rfl, by assumption⟩
theorem ob_isr3_99 (n_t_a0 : Int32) (fn_t_a0 : Nat → Int32) (hn5 : n_t_a0 < (5 : Int32)) (hib : (¬ (2 : Int32) < 0) ∧ (2 : Int32) < n_t_a0) (c3 : ¬ ((fn_t_a0 2) < (1 : Int32))) : ((1 : Int32) = (0 : Int32) ∧ (fn_t_a0 2) < (1 : Int32)) ∨ ((1 : Int32) = (1 : Int32) ∧ ¬ ((fn_t_a0 2) < (1 : Int32))) := by
  first | exact Or.inl ⟨rfl, by assumption⟩ | exact Or.inr ⟨rfl, by assumption⟩
def Qisr3 (Z : State) (t_a0 : Addr) (k_t_a0 : ClassId) (n_t_a0 : Int32) (fn_t_a0 : Nat → Int32) (a0 : Addr) (h0 : Heap) (n0 : Nat) (v : Option Value) (h : Heap) (L : List Loc) : Prop := ∃ (zz : Int32), v = some (.int zz) ∧ Fr n0 L ∧ h = h0 ∧ ((zz = (0 : Int32) ∧ (fn_t_a0 2) < (1 : Int32)) ∨ (zz = (1 : Int32) ∧ ¬ ((fn_t_a0 2) < (1 : Int32))))
theorem rmisr3 (l : Launch) (Z : State) (A0 : Array Value) (hw : ∀ d ∈ tables_1, d.before A0 Z = true) (ws : List Jvm.Cond) (t_a0 : Addr) (k_t_a0 : ClassId) (n_t_a0 : Int32) (fn_t_a0 : Nat → Int32) (a0 : Addr) (h0 : Heap) (n0 : Nat) (Z0 : n0 ≤ h0.size) (P_E_a0 : Exa Z h0 a0 "com/example/libacross/libacross/eval/JudgedRanking") (P_F_a0_relevance : Fld Z h0 a0 "com/example/libacross/libacross/eval/JudgedRanking" "relevance" "[I" (.ref t_a0)) (P_V_t_a0 : qA Z h0 t_a0 k_t_a0 .int n_t_a0 (fun i => .int (fn_t_a0 i))) (hn5 : n_t_a0 < (5 : Int32)) (hib : (¬ (2 : Int32) < 0) ∧ (2 : Int32) < n_t_a0) :
  qM l Z (⟨"com/example/libacross/libacross/eval/JudgedRanking", "isRelevant", "(I)Z"⟩ : MethodName) prog_4_method_10_code 2 (some .boolean) ws ({ frames := 0, cells := 0, slots := 0, locals := 0 } : Room) #[(.ref a0), (.int 3)] h0 (Qisr3 Z t_a0 k_t_a0 n_t_a0 fn_t_a0 a0 h0 n0) 0 0 := qe d43 (plainFor_of_name pn_jri) (fun m => ef_isr3 m a0) fun p e s m below meth c s₁ hx Y hml hlk hown hnm X0 e0 hZ hrt => by
 have hwd := qw hw
 have N0 := Fr.nil n0
 show qG p e below _ (s₁.setTop (mkF m 0 #[vR a0, vI 3] []))
 refine qb (fun _ k => XS.aloadN X0.here hx rfl (Y 0 rfl) rfl rfl k) ?_
 obtain ⟨T1, X1, e1, st1⟩ := getF X0 hx hZ hown (host := "") (Or.inl (hwd 105 rfl)) Via.refl e0 P_F_a0_relevance (g := (mkF m 1 #[vR a0, vI 3] [(.ref a0)])) rfl rfl (Y 1 rfl)
 refine qb st1 ?_
 refine qb (fun _ k => XS.iloadN X1.here hx rfl (Y 2 rfl) rfl k) ?_
 refine qb (fun _ k => XS.iconst X1.here hx rfl (Y 3 rfl) k) ?_
 refine qb (fun _ k => XS.isub X1.here hx rfl (Y 4 rfl) rfl k) ?_
 obtain ⟨cl2, Ar2, qq2, S2, M2, H2, G2⟩ := id P_V_t_a0
 have hin2 : ¬ ((2 : Int32) < 0 ∨ cl2.slots.size ≤ ((2 : Int32)).toNatClampNeg) := inb_of S2 hib
 refine qb (fun t k => X1.iaload hx (j := (2 : Int32)) (v := (.int (fn_t_a0 2))) (by rw [e1]; exact Ar2.1) (State.isArrayOf_alike hZ.alike Ar2.2.1) Ar2.2.2 hin2 (H2 _ (Nat.lt_of_not_le fun y => hin2 (Or.inr y))) (g := (mkF m 7 #[vR a0, vI 3] [(.int 2), (.ref t_a0)])) rfl rfl (Y 5 rfl) _ k) ?_
 show qG p e below _ (T1.setTop (mkF m 8 #[vR a0, vI 3] [(.int (fn_t_a0 2))]))
 refine qb (fun _ k => XS.iconst X1.here hx rfl (Y 6 rfl) k) ?_
 by_cases c3 : (fn_t_a0 2) < (1 : Int32)
 ·skip
  refine qb (fun _ k => XS.icmpYes X1.here hx rfl (pc0 := 9) (pc' := 16) rfl (Y 7 rfl) rfl (tlt c3).1 (by decide) (by decide) k) ?_
  show qG p e below _ (T1.setTop (mkF m 16 #[vR a0, vI 3] []))
  refine qb (fun _ k => XS.iconst X1.here hx rfl (Y 10 rfl) k) ?_
  exact own_retN X1 hx (t := .boolean) hrt (by simp) (Y 11 rfl) hlk e1 ⟨_, rfl, N0, rfl, (ob_isr3_98 n_t_a0 fn_t_a0 hn5 hib c3)⟩ (by decide) (by decide)
 ·skip
  refine qb (fun _ k => XS.icmpNo X1.here hx rfl (Y 7 rfl) rfl (flt c3).1 k) ?_
  show qG p e below _ (T1.setTop (mkF m 12 #[vR a0, vI 3] []))
  refine qb (fun _ k => XS.iconst X1.here hx rfl (Y 8 rfl) k) ?_
  refine qb (fun _ k => XS.goto X1.here hx rfl (pc0 := 13) (pc' := 17) rfl (Y 9 rfl) (by decide) (by decide) k) ?_
  show qG p e below _ (T1.setTop (mkF m 17 #[vR a0, vI 3] [(.int 1)]))
  exact own_retN X1 hx (t := .boolean) hrt (by simp) (Y 11 rfl) hlk e1 ⟨_, rfl, N0, rfl, (ob_isr3_99 n_t_a0 fn_t_a0 hn5 hib c3)⟩ (by decide) (by decide)
theorem ef_isr4 (m : MethodId) (a0 : Addr) : entryFrame m #[(.ref a0), (.int 4)] 2 = mkF m 0 #[vR a0, vI 4] [] := rfl
theorem ob_isr4_100 (n_t_a0 : Int32) (fn_t_a0 : Nat → Int32) (hn5 : n_t_a0 < (5 : Int32)) (hib : (¬ (3 : Int32) < 0) ∧ (3 : Int32) < n_t_a0) (c3 : (fn_t_a0 3) < (1 : Int32)) : ((0 : Int32) = (0 : Int32) ∧ (fn_t_a0 3) < (1 : Int32)) ∨ ((0 : Int32) = (1 : Int32) ∧ ¬ ((fn_t_a0 3) < (1 : Int32))) := by
  first | exact Or.inl ⟨rfl, by assumption⟩ | exact Or.inr ⟨rfl, by assumption⟩
theorem ob_isr4_101 (n_t_a0 : Int32) (fn_t_a0 : Nat → Int32) (hn5 : n_t_a0 < (5 : Int32)) (hib : (¬ (3 : Int32) < 0) ∧ (3 : Int32) < n_t_a0) (c3 : ¬ ((fn_t_a0 3) < (1 : Int32))) : ((1 : Int32) = (0 : Int32) ∧ (fn_t_a0 3) < (1 : Int32)) ∨ ((1 : Int32) = (1 : Int32) ∧ ¬ ((fn_t_a0 3) < (1 : Int32))) := by
  first | exact Or.inl ⟨rfl, by assumption⟩ | exact Or.inr ⟨rfl, by assumption⟩
def Qisr4 (Z : State) (t_a0 : Addr) (k_t_a0 : ClassId) (n_t_a0 : Int32) (fn_t_a0 : Nat → Int32) (a0 : Addr) (h0 : Heap) (n0 : Nat) (v : Option Value) (h : Heap) (L : List Loc) : Prop := ∃ (zz : Int32), v = some (.int zz) ∧ Fr n0 L ∧ h = h0 ∧ ((zz = (0 : Int32) ∧ (fn_t_a0 3) < (1 : Int32)) ∨ (zz = (1 : Int32) ∧ ¬ ((fn_t_a0 3) < (1 : Int32))))
theorem rmisr4 (l : Launch) (Z : State) (A0 : Array Value) (hw : ∀ d ∈ tables_1, d.before A0 Z = true) (ws : List Jvm.Cond) (t_a0 : Addr) (k_t_a0 : ClassId) (n_t_a0 : Int32) (fn_t_a0 : Nat → Int32) (a0 : Addr) (h0 : Heap) (n0 : Nat) (Z0 : n0 ≤ h0.size) (P_E_a0 : Exa Z h0 a0 "com/example/libacross/libacross/eval/JudgedRanking") (P_F_a0_relevance : Fld Z h0 a0 "com/example/libacross/libacross/eval/JudgedRanking" "relevance" "[I" (.ref t_a0)) (P_V_t_a0 : qA Z h0 t_a0 k_t_a0 .int n_t_a0 (fun i => .int (fn_t_a0 i))) (hn5 : n_t_a0 < (5 : Int32)) (hib : (¬ (3 : Int32) < 0) ∧ (3 : Int32) < n_t_a0) :
  qM l Z (⟨"com/example/libacross/libacross/eval/JudgedRanking", "isRelevant", "(I)Z"⟩ : MethodName) prog_4_method_10_code 2 (some .boolean) ws ({ frames := 0, cells := 0, slots := 0, locals := 0 } : Room) #[(.ref a0), (.int 4)] h0 (Qisr4 Z t_a0 k_t_a0 n_t_a0 fn_t_a0 a0 h0 n0) 0 0 := qe d43 (plainFor_of_name pn_jri) (fun m => ef_isr4 m a0) fun p e s m below meth c s₁ hx Y hml hlk hown hnm X0 e0 hZ hrt => by
 have hwd := qw hw
 have N0 := Fr.nil n0
 show qG p e below _ (s₁.setTop (mkF m 0 #[vR a0, vI 4] []))
 refine qb (fun _ k => XS.aloadN X0.here hx rfl (Y 0 rfl) rfl rfl k) ?_
 obtain ⟨T1, X1, e1, st1⟩ := getF X0 hx hZ hown (host := "") (Or.inl (hwd 105 rfl)) Via.refl e0 P_F_a0_relevance (g := (mkF m 1 #[vR a0, vI 4] [(.ref a0)])) rfl rfl (Y 1 rfl)
 refine qb st1 ?_
 refine qb (fun _ k => XS.iloadN X1.here hx rfl (Y 2 rfl) rfl k) ?_
 refine qb (fun _ k => XS.iconst X1.here hx rfl (Y 3 rfl) k) ?_
 refine qb (fun _ k => XS.isub X1.here hx rfl (Y 4 rfl) rfl k) ?_
 obtain ⟨cl2, Ar2, qq2, S2, M2, H2, G2⟩ := id P_V_t_a0
 have hin2 : ¬ ((3 : Int32) < 0 ∨ cl2.slots.size ≤ ((3 : Int32)).toNatClampNeg) := inb_of S2 hib
 refine qb (fun t k => X1.iaload hx (j := (3 : Int32)) (v := (.int (fn_t_a0 3))) (by rw [e1]; exact Ar2.1) (State.isArrayOf_alike hZ.alike Ar2.2.1) Ar2.2.2 hin2 (H2 _ (Nat.lt_of_not_le fun y => hin2 (Or.inr y))) (g := (mkF m 7 #[vR a0, vI 4] [(.int 3), (.ref t_a0)])) rfl rfl (Y 5 rfl) _ k) ?_
 show qG p e below _ (T1.setTop (mkF m 8 #[vR a0, vI 4] [(.int (fn_t_a0 3))]))
 refine qb (fun _ k => XS.iconst X1.here hx rfl (Y 6 rfl) k) ?_
 by_cases c3 : (fn_t_a0 3) < (1 : Int32)
 ·skip
  refine qb (fun _ k => XS.icmpYes X1.here hx rfl (pc0 := 9) (pc' := 16) rfl (Y 7 rfl) rfl (tlt c3).1 (by decide) (by decide) k) ?_
  show qG p e below _ (T1.setTop (mkF m 16 #[vR a0, vI 4] []))
  refine qb (fun _ k => XS.iconst X1.here hx rfl (Y 10 rfl) k) ?_
  exact own_retN X1 hx (t := .boolean) hrt (by simp) (Y 11 rfl) hlk e1 ⟨_, rfl, N0, rfl, (ob_isr4_100 n_t_a0 fn_t_a0 hn5 hib c3)⟩ (by decide) (by decide)
 ·skip
  refine qb (fun _ k => XS.icmpNo X1.here hx rfl (Y 7 rfl) rfl (flt c3).1 k) ?_
  show qG p e below _ (T1.setTop (mkF m 12 #[vR a0, vI 4] []))
  refine qb (fun _ k => XS.iconst X1.here hx rfl (Y 8 rfl) k) ?_
  refine qb (fun _ k => XS.goto X1.here hx rfl (pc0 := 13) (pc' := 17) rfl (Y 9 rfl) (by decide) (by decide) k) ?_
  show qG p e below _ (T1.setTop (mkF m 17 #[vR a0, vI 4] [(.int 1)]))
  exact own_retN X1 hx (t := .boolean) hrt (by simp) (Y 11 rfl) hlk e1 ⟨_, rfl, N0, rfl, (ob_isr4_101 n_t_a0 fn_t_a0 hn5 hib c3)⟩ (by decide) (by decide)
theorem pd_306 : parseMethodDescriptor "(I)Z" = some ⟨[.int], some .boolean⟩ := by decide +kernel
theorem d28 : own_ds prog_4_method_3_code [(0, .iconst 1, 1), (1, .istore_n 1, 1), (2, .iload_n 1, 1), (3, .aload_n 0, 1), (4, .getfield 13, 3), (7, .arraylength, 1), (8, .if_icmp .gt 22, 3), (11, .aload_n 0, 1), (12, .iload_n 1, 1), (13, .invokevirtual 81, 3), (16, .ifCond .eq 8, 3), (19, .dconst 1, 1), (20, .iload_n 1, 1), (21, .i2d, 1), (22, .ddiv, 1), (23, .dreturn, 1), (24, .iinc 1 1, 3), (27, .goto (-25), 3), (30, .dconst 0, 1), (31, .dreturn, 1)] = true := by decide +kernel
theorem ef_rrk (m : MethodId) (a0 : Addr) : entryFrame m #[(.ref a0)] 2 = mkF m 0 #[vR a0, .unset] [] := rfl
theorem ob_rrk_102 (n_t_a0 : Int32) (fn_t_a0 : Nat → Int32) (hn5 : n_t_a0 < (5 : Int32)) (hn0 : ¬ (n_t_a0 < (0 : Int32))) (c3 : n_t_a0 < (1 : Int32)) : FP.dconst0 = own_rr n_t_a0 fn_t_a0 := by
  simp only [own_rr]
  rcases own_n5 hn0 hn5 with h | h | h | h | h <;> subst h <;> simp_all (decide := true) [own_dv1, own_dv2, own_dv3, own_dv4, own_dz]
theorem ob_rrk_103 (n_t_a0 : Int32) (hn5 : n_t_a0 < (5 : Int32)) (hn0 : ¬ (n_t_a0 < (0 : Int32))) (c3 : ¬ (n_t_a0 < (1 : Int32))) : (¬ (0 : Int32) < 0) ∧ (0 : Int32) < n_t_a0 := by
  first | decide +kernel | exact own_rb (by assumption) (by decide)
theorem ob_rrk_104 (n_t_a0 : Int32) (fn_t_a0 : Nat → Int32) (o5 : Int32) (hn5 : n_t_a0 < (5 : Int32)) (hn0 : ¬ (n_t_a0 < (0 : Int32))) (c3 : ¬ (n_t_a0 < (1 : Int32))) (hp6 : (o5 = (0 : Int32) ∧ (fn_t_a0 0) < (1 : Int32)) ∨ (o5 = (1 : Int32) ∧ ¬ ((fn_t_a0 0) < (1 : Int32)))) (c7 : o5 = (0 : Int32)) (c10 : n_t_a0 < (2 : Int32)) : FP.dconst0 = own_rr n_t_a0 fn_t_a0 := by
  simp only [own_rr]
  rcases own_n5 hn0 hn5 with h | h | h | h | h <;> subst h <;> simp_all (decide := true) [own_dv1, own_dv2, own_dv3, own_dv4, own_dz]
theorem ob_rrk_105 (n_t_a0 : Int32) (fn_t_a0 : Nat → Int32) (o5 : Int32) (hn5 : n_t_a0 < (5 : Int32)) (hn0 : ¬ (n_t_a0 < (0 : Int32))) (c3 : ¬ (n_t_a0 < (1 : Int32))) (hp6 : (o5 = (0 : Int32) ∧ (fn_t_a0 0) < (1 : Int32)) ∨ (o5 = (1 : Int32) ∧ ¬ ((fn_t_a0 0) < (1 : Int32)))) (c7 : o5 = (0 : Int32)) (c10 : ¬ (n_t_a0 < (2 : Int32))) : (¬ (1 : Int32) < 0) ∧ (1 : Int32) < n_t_a0 := by
  first | decide +kernel | exact own_rb (by assumption) (by decide)
theorem ob_rrk_106 (n_t_a0 : Int32) (fn_t_a0 : Nat → Int32) (o5 o12 : Int32) (hn5 : n_t_a0 < (5 : Int32)) (hn0 : ¬ (n_t_a0 < (0 : Int32))) (c3 : ¬ (n_t_a0 < (1 : Int32))) (hp6 : (o5 = (0 : Int32) ∧ (fn_t_a0 0) < (1 : Int32)) ∨ (o5 = (1 : Int32) ∧ ¬ ((fn_t_a0 0) < (1 : Int32)))) (c7 : o5 = (0 : Int32)) (c10 : ¬ (n_t_a0 < (2 : Int32))) (hp13 : (o12 = (0 : Int32) ∧ (fn_t_a0 1) < (1 : Int32)) ∨ (o12 = (1 : Int32) ∧ ¬ ((fn_t_a0 1) < (1 : Int32)))) (c14 : o12 = (0 : Int32)) (c17 : n_t_a0 < (3 : Int32)) : FP.dconst0 = own_rr n_t_a0 fn_t_a0 := by
  simp only [own_rr]
  rcases own_n5 hn0 hn5 with h | h | h | h | h <;> subst h <;> simp_all (decide := true) [own_dv1, own_dv2, own_dv3, own_dv4, own_dz]
theorem ob_rrk_107 (n_t_a0 : Int32) (fn_t_a0 : Nat → Int32) (o5 o12 : Int32) (hn5 : n_t_a0 < (5 : Int32)) (hn0 : ¬ (n_t_a0 < (0 : Int32))) (c3 : ¬ (n_t_a0 < (1 : Int32))) (hp6 : (o5 = (0 : Int32) ∧ (fn_t_a0 0) < (1 : Int32)) ∨ (o5 = (1 : Int32) ∧ ¬ ((fn_t_a0 0) < (1 : Int32)))) (c7 : o5 = (0 : Int32)) (c10 : ¬ (n_t_a0 < (2 : Int32))) (hp13 : (o12 = (0 : Int32) ∧ (fn_t_a0 1) < (1 : Int32)) ∨ (o12 = (1 : Int32) ∧ ¬ ((fn_t_a0 1) < (1 : Int32)))) (c14 : o12 = (0 : Int32)) (c17 : ¬ (n_t_a0 < (3 : Int32))) : (¬ (2 : Int32) < 0) ∧ (2 : Int32) < n_t_a0 := by
  first | decide +kernel | exact own_rb (by assumption) (by decide)
theorem ob_rrk_108 (n_t_a0 : Int32) (fn_t_a0 : Nat → Int32) (o5 o12 o19 : Int32) (hn5 : n_t_a0 < (5 : Int32)) (hn0 : ¬ (n_t_a0 < (0 : Int32))) (c3 : ¬ (n_t_a0 < (1 : Int32))) (hp6 : (o5 = (0 : Int32) ∧ (fn_t_a0 0) < (1 : Int32)) ∨ (o5 = (1 : Int32) ∧ ¬ ((fn_t_a0 0) < (1 : Int32)))) (c7 : o5 = (0 : Int32)) (c10 : ¬ (n_t_a0 < (2 : Int32))) (hp13 : (o12 = (0 : Int32) ∧ (fn_t_a0 1) < (1 : Int32)) ∨ (o12 = (1 : Int32) ∧ ¬ ((fn_t_a0 1) < (1 : Int32)))) (c14 : o12 = (0 : Int32)) (c17 : ¬ (n_t_a0 < (3 : Int32))) (hp20 : (o19 = (0 : Int32) ∧ (fn_t_a0 2) < (1 : Int32)) ∨ (o19 = (1 : Int32) ∧ ¬ ((fn_t_a0 2) < (1 : Int32)))) (c21 : o19 = (0 : Int32)) (c24 : n_t_a0 < (4 : Int32)) : FP.dconst0 = own_rr n_t_a0 fn_t_a0 := by
  simp only [own_rr]
  rcases own_n5 hn0 hn5 with h | h | h | h | h <;> subst h <;> simp_all (decide := true) [own_dv1, own_dv2, own_dv3, own_dv4, own_dz]
theorem ob_rrk_109 (n_t_a0 : Int32) (fn_t_a0 : Nat → Int32) (o5 o12 o19 : Int32) (hn5 : n_t_a0 < (5 : Int32)) (hn0 : ¬ (n_t_a0 < (0 : Int32))) (c3 : ¬ (n_t_a0 < (1 : Int32))) (hp6 : (o5 = (0 : Int32) ∧ (fn_t_a0 0) < (1 : Int32)) ∨ (o5 = (1 : Int32) ∧ ¬ ((fn_t_a0 0) < (1 : Int32)))) (c7 : o5 = (0 : Int32)) (c10 : ¬ (n_t_a0 < (2 : Int32))) (hp13 : (o12 = (0 : Int32) ∧ (fn_t_a0 1) < (1 : Int32)) ∨ (o12 = (1 : Int32) ∧ ¬ ((fn_t_a0 1) < (1 : Int32)))) (c14 : o12 = (0 : Int32)) (c17 : ¬ (n_t_a0 < (3 : Int32))) (hp20 : (o19 = (0 : Int32) ∧ (fn_t_a0 2) < (1 : Int32)) ∨ (o19 = (1 : Int32) ∧ ¬ ((fn_t_a0 2) < (1 : Int32)))) (c21 : o19 = (0 : Int32)) (c24 : ¬ (n_t_a0 < (4 : Int32))) : (¬ (3 : Int32) < 0) ∧ (3 : Int32) < n_t_a0 := by
  first | decide +kernel | exact own_rb (by assumption) (by decide)
theorem ob_rrk_110 (n_t_a0 : Int32) (fn_t_a0 : Nat → Int32) (o5 o12 : Int32) (o19 o26 : Int32) (hn5 : n_t_a0 < (5 : Int32)) (hn0 : ¬ (n_t_a0 < (0 : Int32))) (c3 : ¬ (n_t_a0 < (1 : Int32))) (hp6 : (o5 = (0 : Int32) ∧ (fn_t_a0 0) < (1 : Int32)) ∨ (o5 = (1 : Int32) ∧ ¬ ((fn_t_a0 0) < (1 : Int32)))) (c7 : o5 = (0 : Int32)) (c10 : ¬ (n_t_a0 < (2 : Int32))) (hp13 : (o12 = (0 : Int32) ∧ (fn_t_a0 1) < (1 : Int32)) ∨ (o12 = (1 : Int32) ∧ ¬ ((fn_t_a0 1) < (1 : Int32)))) (c14 : o12 = (0 : Int32)) (c17 : ¬ (n_t_a0 < (3 : Int32))) (hp20 : (o19 = (0 : Int32) ∧ (fn_t_a0 2) < (1 : Int32)) ∨ (o19 = (1 : Int32) ∧ ¬ ((fn_t_a0 2) < (1 : Int32)))) (c21 : o19 = (0 : Int32)) (c24 : ¬ (n_t_a0 < (4 : Int32))) (hp27 : (o26 = (0 : Int32) ∧ (fn_t_a0 3) < (1 : Int32)) ∨ (o26 = (1 : Int32) ∧ ¬ ((fn_t_a0 3) < (1 : Int32)))) (c28 : o26 = (0 : Int32)) : FP.dconst0 = own_rr n_t_a0 fn_t_a0 := by
  simp only [own_rr]
  rcases own_n5 hn0 hn5 with h | h | h | h | h <;> subst h <;> simp_all (decide := true) [own_dv1, own_dv2, own_dv3, own_dv4, own_dz]
theorem ob_rrk_111 (n_t_a0 : Int32) (fn_t_a0 : Nat → Int32) (o5 o12 : Int32) (o19 o26 : Int32) (hn5 : n_t_a0 < (5 : Int32)) (hn0 : ¬ (n_t_a0 < (0 : Int32))) (c3 : ¬ (n_t_a0 < (1 : Int32))) (hp6 : (o5 = (0 : Int32) ∧ (fn_t_a0 0) < (1 : Int32)) ∨ (o5 = (1 : Int32) ∧ ¬ ((fn_t_a0 0) < (1 : Int32)))) (c7 : o5 = (0 : Int32)) (c10 : ¬ (n_t_a0 < (2 : Int32))) (hp13 : (o12 = (0 : Int32) ∧ (fn_t_a0 1) < (1 : Int32)) ∨ (o12 = (1 : Int32) ∧ ¬ ((fn_t_a0 1) < (1 : Int32)))) (c14 : o12 = (0 : Int32)) (c17 : ¬ (n_t_a0 < (3 : Int32))) (hp20 : (o19 = (0 : Int32) ∧ (fn_t_a0 2) < (1 : Int32)) ∨ (o19 = (1 : Int32) ∧ ¬ ((fn_t_a0 2) < (1 : Int32)))) (c21 : o19 = (0 : Int32)) (c24 : ¬ (n_t_a0 < (4 : Int32))) (hp27 : (o26 = (0 : Int32) ∧ (fn_t_a0 3) < (1 : Int32)) ∨ (o26 = (1 : Int32) ∧ ¬ ((fn_t_a0 3) < (1 : Int32)))) (c28 : ¬ (o26 = (0 : Int32))) : Fl.NoNaN64 (FP.ddiv FP.dconst1 (FP.i2d (4 : Int32))) := by
  first | decide +kernel | exact own_rb (by assumption) (by decide)
theorem ob_rrk_112 (n_t_a0 : Int32) (fn_t_a0 : Nat → Int32) (o5 o12 : Int32) (o19 o26 : Int32) (hn5 : n_t_a0 < (5 : Int32)) (hn0 : ¬ (n_t_a0 < (0 : Int32))) (c3 : ¬ (n_t_a0 < (1 : Int32))) (hp6 : (o5 = (0 : Int32) ∧ (fn_t_a0 0) < (1 : Int32)) ∨ (o5 = (1 : Int32) ∧ ¬ ((fn_t_a0 0) < (1 : Int32)))) (c7 : o5 = (0 : Int32)) (c10 : ¬ (n_t_a0 < (2 : Int32))) (hp13 : (o12 = (0 : Int32) ∧ (fn_t_a0 1) < (1 : Int32)) ∨ (o12 = (1 : Int32) ∧ ¬ ((fn_t_a0 1) < (1 : Int32)))) (c14 : o12 = (0 : Int32)) (c17 : ¬ (n_t_a0 < (3 : Int32))) (hp20 : (o19 = (0 : Int32) ∧ (fn_t_a0 2) < (1 : Int32)) ∨ (o19 = (1 : Int32) ∧ ¬ ((fn_t_a0 2) < (1 : Int32)))) (c21 : o19 = (0 : Int32)) (c24 : ¬ (n_t_a0 < (4 : Int32))) (hp27 : (o26 = (0 : Int32) ∧ (fn_t_a0 3) < (1 : Int32)) ∨ (o26 = (1 : Int32) ∧ ¬ ((fn_t_a0 3) < (1 : Int32)))) (c28 : ¬ (o26 = (0 : Int32))) : (FP.ddiv FP.dconst1 (FP.i2d (4 : Int32))) = own_rr n_t_a0 fn_t_a0 := by
  simp only [own_rr]
  rcases own_n5 hn0 hn5 with h | h | h | h | h <;> subst h <;> simp_all (decide := true) [own_dv1, own_dv2, own_dv3, own_dv4, own_dz]
theorem ob_rrk_113 (n_t_a0 : Int32) (fn_t_a0 : Nat → Int32) (o5 o12 o19 : Int32) (hn5 : n_t_a0 < (5 : Int32)) (hn0 : ¬ (n_t_a0 < (0 : Int32))) (c3 : ¬ (n_t_a0 < (1 : Int32))) (hp6 : (o5 = (0 : Int32) ∧ (fn_t_a0 0) < (1 : Int32)) ∨ (o5 = (1 : Int32) ∧ ¬ ((fn_t_a0 0) < (1 : Int32)))) (c7 : o5 = (0 : Int32)) (c10 : ¬ (n_t_a0 < (2 : Int32))) (hp13 : (o12 = (0 : Int32) ∧ (fn_t_a0 1) < (1 : Int32)) ∨ (o12 = (1 : Int32) ∧ ¬ ((fn_t_a0 1) < (1 : Int32)))) (c14 : o12 = (0 : Int32)) (c17 : ¬ (n_t_a0 < (3 : Int32))) (hp20 : (o19 = (0 : Int32) ∧ (fn_t_a0 2) < (1 : Int32)) ∨ (o19 = (1 : Int32) ∧ ¬ ((fn_t_a0 2) < (1 : Int32)))) (c21 : ¬ (o19 = (0 : Int32))) : Fl.NoNaN64 (FP.ddiv FP.dconst1 (FP.i2d (3 : Int32))) := by
  first | decide +kernel | exact own_rb (by assumption) (by decide)
theorem ob_rrk_114 (n_t_a0 : Int32) (fn_t_a0 : Nat → Int32) (o5 o12 o19 : Int32) (hn5 : n_t_a0 < (5 : Int32)) (hn0 : ¬ (n_t_a0 < (0 : Int32))) (c3 : ¬ (n_t_a0 < (1 : Int32))) (hp6 : (o5 = (0 : Int32) ∧ (fn_t_a0 0) < (1 : Int32)) ∨ (o5 = (1 : Int32) ∧ ¬ ((fn_t_a0 0) < (1 : Int32)))) (c7 : o5 = (0 : Int32)) (c10 : ¬ (n_t_a0 < (2 : Int32))) (hp13 : (o12 = (0 : Int32) ∧ (fn_t_a0 1) < (1 : Int32)) ∨ (o12 = (1 : Int32) ∧ ¬ ((fn_t_a0 1) < (1 : Int32)))) (c14 : o12 = (0 : Int32)) (c17 : ¬ (n_t_a0 < (3 : Int32))) (hp20 : (o19 = (0 : Int32) ∧ (fn_t_a0 2) < (1 : Int32)) ∨ (o19 = (1 : Int32) ∧ ¬ ((fn_t_a0 2) < (1 : Int32)))) (c21 : ¬ (o19 = (0 : Int32))) : (FP.ddiv FP.dconst1 (FP.i2d (3 : Int32))) = own_rr n_t_a0 fn_t_a0 := by
  simp only [own_rr]
  rcases own_n5 hn0 hn5 with h | h | h | h | h <;> subst h <;> simp_all (decide := true) [own_dv1, own_dv2, own_dv3, own_dv4, own_dz]
theorem ob_rrk_115 (n_t_a0 : Int32) (fn_t_a0 : Nat → Int32) (o5 o12 : Int32) (hn5 : n_t_a0 < (5 : Int32)) (hn0 : ¬ (n_t_a0 < (0 : Int32))) (c3 : ¬ (n_t_a0 < (1 : Int32))) (hp6 : (o5 = (0 : Int32) ∧ (fn_t_a0 0) < (1 : Int32)) ∨ (o5 = (1 : Int32) ∧ ¬ ((fn_t_a0 0) < (1 : Int32)))) (c7 : o5 = (0 : Int32)) (c10 : ¬ (n_t_a0 < (2 : Int32))) (hp13 : (o12 = (0 : Int32) ∧ (fn_t_a0 1) < (1 : Int32)) ∨ (o12 = (1 : Int32) ∧ ¬ ((fn_t_a0 1) < (1 : Int32)))) (c14 : ¬ (o12 = (0 : Int32))) : Fl.NoNaN64 (FP.ddiv FP.dconst1 (FP.i2d (2 : Int32))) := by
  first | decide +kernel | exact own_rb (by assumption) (by decide)
theorem ob_rrk_116 (n_t_a0 : Int32) (fn_t_a0 : Nat → Int32) (o5 o12 : Int32) (hn5 : n_t_a0 < (5 : Int32)) (hn0 : ¬ (n_t_a0 < (0 : Int32))) (c3 : ¬ (n_t_a0 < (1 : Int32))) (hp6 : (o5 = (0 : Int32) ∧ (fn_t_a0 0) < (1 : Int32)) ∨ (o5 = (1 : Int32) ∧ ¬ ((fn_t_a0 0) < (1 : Int32)))) (c7 : o5 = (0 : Int32)) (c10 : ¬ (n_t_a0 < (2 : Int32))) (hp13 : (o12 = (0 : Int32) ∧ (fn_t_a0 1) < (1 : Int32)) ∨ (o12 = (1 : Int32) ∧ ¬ ((fn_t_a0 1) < (1 : Int32)))) (c14 : ¬ (o12 = (0 : Int32))) : (FP.ddiv FP.dconst1 (FP.i2d (2 : Int32))) = own_rr n_t_a0 fn_t_a0 := by
  simp only [own_rr]
  rcases own_n5 hn0 hn5 with h | h | h | h | h <;> subst h <;> simp_all (decide := true) [own_dv1, own_dv2, own_dv3, own_dv4, own_dz]
theorem ob_rrk_117 (n_t_a0 : Int32) (fn_t_a0 : Nat → Int32) (o5 : Int32) (hn5 : n_t_a0 < (5 : Int32)) (hn0 : ¬ (n_t_a0 < (0 : Int32))) (c3 : ¬ (n_t_a0 < (1 : Int32))) (hp6 : (o5 = (0 : Int32) ∧ (fn_t_a0 0) < (1 : Int32)) ∨ (o5 = (1 : Int32) ∧ ¬ ((fn_t_a0 0) < (1 : Int32)))) (c7 : ¬ (o5 = (0 : Int32))) : Fl.NoNaN64 (FP.ddiv FP.dconst1 (FP.i2d (1 : Int32))) := by
  first | decide +kernel | exact own_rb (by assumption) (by decide)
theorem ob_rrk_118 (n_t_a0 : Int32) (fn_t_a0 : Nat → Int32) (o5 : Int32) (hn5 : n_t_a0 < (5 : Int32)) (hn0 : ¬ (n_t_a0 < (0 : Int32))) (c3 : ¬ (n_t_a0 < (1 : Int32))) (hp6 : (o5 = (0 : Int32) ∧ (fn_t_a0 0) < (1 : Int32)) ∨ (o5 = (1 : Int32) ∧ ¬ ((fn_t_a0 0) < (1 : Int32)))) (c7 : ¬ (o5 = (0 : Int32))) : (FP.ddiv FP.dconst1 (FP.i2d (1 : Int32))) = own_rr n_t_a0 fn_t_a0 := by
  simp only [own_rr]
  rcases own_n5 hn0 hn5 with h | h | h | h | h <;> subst h <;> simp_all (decide := true) [own_dv1, own_dv2, own_dv3, own_dv4, own_dz]
def Qrrk (Z : State) (t_a0 : Addr) (k_t_a0 : ClassId) (n_t_a0 : Int32) (fn_t_a0 : Nat → Int32) (a0 : Addr) (h0 : Heap) (n0 : Nat) (v : Option Value) (h : Heap) (L : List Loc) : Prop := ∃ (zz : UInt64), v = some (.double zz) ∧ Fr n0 L ∧ h = h0 ∧ (zz = own_rr n_t_a0 fn_t_a0)
theorem rmrrk (l : Launch) (Z : State) (A0 : Array Value) (hw : ∀ d ∈ tables_1, d.before A0 Z = true) (ws : List Jvm.Cond) (t_a0 : Addr) (k_t_a0 : ClassId) (n_t_a0 : Int32) (fn_t_a0 : Nat → Int32) (a0 : Addr) (h0 : Heap) (n0 : Nat) (Z0 : n0 ≤ h0.size) (P_E_a0 : Exa Z h0 a0 "com/example/libacross/libacross/eval/JudgedRanking") (P_F_a0_relevance : Fld Z h0 a0 "com/example/libacross/libacross/eval/JudgedRanking" "relevance" "[I" (.ref t_a0)) (P_V_t_a0 : qA Z h0 t_a0 k_t_a0 .int n_t_a0 (fun i => .int (fn_t_a0 i))) (hn5 : n_t_a0 < (5 : Int32)) (hn0 : ¬ (n_t_a0 < (0 : Int32))) :
  qM l Z (⟨"com/example/libacross/libacross/eval/JudgedRanking", "reciprocalRank", "()D"⟩ : MethodName) prog_4_method_3_code 2 (some .double) ws ({ frames := 1, cells := 0, slots := 0, locals := 13 } : Room) #[(.ref a0)] h0 (Qrrk Z t_a0 k_t_a0 n_t_a0 fn_t_a0 a0 h0 n0) 0 0 := qe d28 (plainFor_of_name pn_jri) (fun m => ef_rrk m a0) fun p e s m below meth c s₁ hx y hml hlk hown hnm X0 e0 hZ hrt => by
 have hwd := qw hw
 have N0 := Fr.nil n0
 show qG p e below _ (s₁.setTop (mkF m 0 #[vR a0, .unset] []))
 refine qb (fun _ k => XS.iconst X0.here hx rfl (y 0 rfl) k) ?_
 refine qb (fun _ k => XS.istoreN X0.here hx rfl (y 1 rfl) rfl (l' := #[vR a0, vI 1]) rfl k) ?_
 show qG p e below _ (s₁.setTop (mkF m 2 #[vR a0, vI 1] []))
 refine qb (fun _ k => XS.iloadN X0.here hx rfl (y 2 rfl) rfl k) ?_
 refine qb (fun _ k => XS.aloadN X0.here hx rfl (y 3 rfl) rfl rfl k) ?_
 obtain ⟨T1, X1, e1, st1⟩ := getF X0 hx hZ hown (host := "") (Or.inl (hwd 105 rfl)) Via.refl e0 P_F_a0_relevance (g := (mkF m 4 #[vR a0, vI 1] [(.ref a0), (.int 1)])) rfl rfl (y 4 rfl)
 refine qb st1 ?_
 obtain ⟨cl2, Ar2, qq2, S2, M2, H2, G2⟩ := id P_V_t_a0
 refine qb (fun t k => X1.arraylength hx (by rw [e1]; exact Ar2.1) (State.isArrayOf_alike hZ.alike Ar2.2.1) (g := (mkF m 7 #[vR a0, vI 1] [(.ref t_a0), (.int 1)])) rfl rfl (y 5 rfl) _ k) ?_
 rw [len_of S2 M2]
 show qG p e below _ (T1.setTop (mkF m 8 #[vR a0, vI 1] [(.int n_t_a0), (.int 1)]))
 by_cases c3 : n_t_a0 < (1 : Int32)
 ·skip
  refine qb (fun _ k => XS.icmpYes X1.here hx rfl (pc0 := 8) (pc' := 30) rfl (y 6 rfl) rfl (tlt c3).2.2.1 (by decide) (by decide) k) ?_
  show qG p e below _ (T1.setTop (mkF m 30 #[vR a0, vI 1] []))
  refine qb (fun _ k => XS.dconst0 X1.here hx rfl (y 18 rfl) rfl k) ?_
  show qG p e below _ (T1.setTop (mkF m 31 #[vR a0, vI 1] [(.double FP.dconst0)]))
  exact own_retD X1 hx hrt (y 19 rfl) hlk e1 ⟨_, rfl, N0, rfl, (ob_rrk_102 n_t_a0 fn_t_a0 hn5 hn0 c3)⟩ (by decide) (by decide)
 ·skip
  refine qb (fun _ k => XS.icmpNo X1.here hx rfl (y 6 rfl) rfl (flt c3).2.2.1 k) ?_
  show qG p e below _ (T1.setTop (mkF m 11 #[vR a0, vI 1] []))
  refine qb (fun _ k => XS.aloadN X1.here hx rfl (y 7 rfl) rfl rfl k) ?_
  refine qb (fun _ k => XS.iloadN X1.here hx rfl (y 8 rfl) rfl k) ?_
  obtain ⟨_, T4, Lc4, X4, hQ4, st4⟩ := own_cP X1 hx hZ hown hml (rmisr1 l Z A0 hw [] t_a0 k_t_a0 n_t_a0 fn_t_a0 a0 h0 n0 Z0 P_E_a0 P_F_a0_relevance P_V_t_a0 hn5 (ob_rrk_103 n_t_a0 hn5 hn0 c3)) (hwd 306 rfl) (hwd 307 rfl) (hwd 88 rfl) (hwd 309 rfl) (by decide) pd_306 e1 (hwd 308 rfl) (own_selPriv hZ (hwd 87 rfl) (hwd 308 rfl) (hwd 307 rfl) (by decide)) P_E_a0 (g := (mkF m 13 #[vR a0, vI 1] [(.int 1), (.ref a0)])) (rest := []) rfl rfl rfl rfl (y 9 rfl) rfl
  obtain ⟨o5, rfl, Nq4, eq4, hp6⟩ := hQ4
  have N4 := Fr.app N0 Nq4
  refine qb st4 ?_
  show qG p e below _ (T4.setTop (mkF m 16 #[vR a0, vI 1] [(.int o5)]))
  by_cases c7 : o5 = (0 : Int32)
  ·skip
   refine qb (fun _ k => XS.ifYes X4.here hx rfl (pc0 := 16) (pc' := 24) rfl (y 10 rfl) rfl ((if0 _ _).trans (teq c7).1) (by decide) (by decide) k) ?_
   show qG p e below _ (T4.setTop (mkF m 24 #[vR a0, vI 1] []))
   refine qb (fun _ k => XS.iinc X4.here hx rfl (y 16 rfl) rfl (l' := #[vR a0, vI 2]) rfl k) ?_
   show qG p e below _ (T4.setTop (mkF m 27 #[vR a0, vI 2] []))
   refine qb (fun _ k => XS.goto X4.here hx rfl (pc0 := 27) (pc' := 2) rfl (y 17 rfl) (by decide) (by decide) k) ?_
   show qG p e below _ (T4.setTop (mkF m 2 #[vR a0, vI 2] []))
   refine qb (fun _ k => XS.iloadN X4.here hx rfl (y 2 rfl) rfl k) ?_
   refine qb (fun _ k => XS.aloadN X4.here hx rfl (y 3 rfl) rfl rfl k) ?_
   obtain ⟨T8, X8, e8, st8⟩ := getF X4 hx hZ hown (host := "") (Or.inl (hwd 105 rfl)) Via.refl eq4 P_F_a0_relevance (g := (mkF m 4 #[vR a0, vI 2] [(.ref a0), (.int 2)])) rfl rfl (y 4 rfl)
   refine qb st8 ?_
   obtain ⟨cl9, Ar9, qq9, S9, M9, H9, G9⟩ := id P_V_t_a0
   refine qb (fun t k => X8.arraylength hx (by rw [e8]; exact Ar9.1) (State.isArrayOf_alike hZ.alike Ar9.2.1) (g := (mkF m 7 #[vR a0, vI 2] [(.ref t_a0), (.int 2)])) rfl rfl (y 5 rfl) _ k) ?_
   rw [len_of S9 M9]
   show qG p e below _ (T8.setTop (mkF m 8 #[vR a0, vI 2] [(.int n_t_a0), (.int 2)]))
   by_cases c10 : n_t_a0 < (2 : Int32)
   ·skip
    refine qb (fun _ k => XS.icmpYes X8.here hx rfl (pc0 := 8) (pc' := 30) rfl (y 6 rfl) rfl (tlt c10).2.2.1 (by decide) (by decide) k) ?_
    show qG p e below _ (T8.setTop (mkF m 30 #[vR a0, vI 2] []))
    refine qb (fun _ k => XS.dconst0 X8.here hx rfl (y 18 rfl) rfl k) ?_
    show qG p e below _ (T8.setTop (mkF m 31 #[vR a0, vI 2] [(.double FP.dconst0)]))
    exact own_retD X8 hx hrt (y 19 rfl) hlk e8 ⟨_, rfl, N4, rfl, (ob_rrk_104 n_t_a0 fn_t_a0 o5 hn5 hn0 c3 hp6 c7 c10)⟩ (by decide) (by decide)
   ·skip
    refine qb (fun _ k => XS.icmpNo X8.here hx rfl (y 6 rfl) rfl (flt c10).2.2.1 k) ?_
    show qG p e below _ (T8.setTop (mkF m 11 #[vR a0, vI 2] []))
    refine qb (fun _ k => XS.aloadN X8.here hx rfl (y 7 rfl) rfl rfl k) ?_
    refine qb (fun _ k => XS.iloadN X8.here hx rfl (y 8 rfl) rfl k) ?_
    obtain ⟨_, T11, Lc11, X11, hQ11, st11⟩ := own_cP X8 hx hZ hown hml (rmisr2 l Z A0 hw [] t_a0 k_t_a0 n_t_a0 fn_t_a0 a0 h0 n0 Z0 P_E_a0 P_F_a0_relevance P_V_t_a0 hn5 (ob_rrk_105 n_t_a0 fn_t_a0 o5 hn5 hn0 c3 hp6 c7 c10)) (hwd 306 rfl) (hwd 307 rfl) (hwd 88 rfl) (hwd 309 rfl) (by decide) pd_306 e8 (hwd 308 rfl) (own_selPriv hZ (hwd 87 rfl) (hwd 308 rfl) (hwd 307 rfl) (by decide)) P_E_a0 (g := (mkF m 13 #[vR a0, vI 2] [(.int 2), (.ref a0)])) (rest := []) rfl rfl rfl rfl (y 9 rfl) rfl
    obtain ⟨o12, rfl, Nq11, eq11, hp13⟩ := hQ11
    have N11 := Fr.app N4 Nq11
    refine qb st11 ?_
    show qG p e below _ (T11.setTop (mkF m 16 #[vR a0, vI 2] [(.int o12)]))
    by_cases c14 : o12 = (0 : Int32)
    ·skip
     refine qb (fun _ k => XS.ifYes X11.here hx rfl (pc0 := 16) (pc' := 24) rfl (y 10 rfl) rfl ((if0 _ _).trans (teq c14).1) (by decide) (by decide) k) ?_
     show qG p e below _ (T11.setTop (mkF m 24 #[vR a0, vI 2] []))
     refine qb (fun _ k => XS.iinc X11.here hx rfl (y 16 rfl) rfl (l' := #[vR a0, vI 3]) rfl k) ?_
     show qG p e below _ (T11.setTop (mkF m 27 #[vR a0, vI 3] []))
     refine qb (fun _ k => XS.goto X11.here hx rfl (pc0 := 27) (pc' := 2) rfl (y 17 rfl) (by decide) (by decide) k) ?_
     show qG p e below _ (T11.setTop (mkF m 2 #[vR a0, vI 3] []))
     refine qb (fun _ k => XS.iloadN X11.here hx rfl (y 2 rfl) rfl k) ?_
     refine qb (fun _ k => XS.aloadN X11.here hx rfl (y 3 rfl) rfl rfl k) ?_
     obtain ⟨T15, X15, e15, st15⟩ := getF X11 hx hZ hown (host := "") (Or.inl (hwd 105 rfl)) Via.refl eq11 P_F_a0_relevance (g := (mkF m 4 #[vR a0, vI 3] [(.ref a0), (.int 3)])) rfl rfl (y 4 rfl)
     refine qb st15 ?_
     obtain ⟨cl16, Ar16, qq16, S16, M16, H16, G16⟩ := id P_V_t_a0
     refine qb (fun t k => X15.arraylength hx (by rw [e15]; exact Ar16.1) (State.isArrayOf_alike hZ.alike Ar16.2.1) (g := (mkF m 7 #[vR a0, vI 3] [(.ref t_a0), (.int 3)])) rfl rfl (y 5 rfl) _ k) ?_
     rw [len_of S16 M16]
     show qG p e below _ (T15.setTop (mkF m 8 #[vR a0, vI 3] [(.int n_t_a0), (.int 3)]))
     by_cases c17 : n_t_a0 < (3 : Int32)
     ·skip
      refine qb (fun _ k => XS.icmpYes X15.here hx rfl (pc0 := 8) (pc' := 30) rfl (y 6 rfl) rfl (tlt c17).2.2.1 (by decide) (by decide) k) ?_
      show qG p e below _ (T15.setTop (mkF m 30 #[vR a0, vI 3] []))
      refine qb (fun _ k => XS.dconst0 X15.here hx rfl (y 18 rfl) rfl k) ?_
      show qG p e below _ (T15.setTop (mkF m 31 #[vR a0, vI 3] [(.double FP.dconst0)]))
      exact own_retD X15 hx hrt (y 19 rfl) hlk e15 ⟨_, rfl, N11, rfl, (ob_rrk_106 n_t_a0 fn_t_a0 o5 o12 hn5 hn0 c3 hp6 c7 c10 hp13 c14 c17)⟩ (by decide) (by decide)
     ·skip
      refine qb (fun _ k => XS.icmpNo X15.here hx rfl (y 6 rfl) rfl (flt c17).2.2.1 k) ?_
      show qG p e below _ (T15.setTop (mkF m 11 #[vR a0, vI 3] []))
      refine qb (fun _ k => XS.aloadN X15.here hx rfl (y 7 rfl) rfl rfl k) ?_
      refine qb (fun _ k => XS.iloadN X15.here hx rfl (y 8 rfl) rfl k) ?_
      obtain ⟨_, T18, Lc18, X18, hQ18, st18⟩ := own_cP X15 hx hZ hown hml (rmisr3 l Z A0 hw [] t_a0 k_t_a0 n_t_a0 fn_t_a0 a0 h0 n0 Z0 P_E_a0 P_F_a0_relevance P_V_t_a0 hn5 (ob_rrk_107 n_t_a0 fn_t_a0 o5 o12 hn5 hn0 c3 hp6 c7 c10 hp13 c14 c17)) (hwd 306 rfl) (hwd 307 rfl) (hwd 88 rfl) (hwd 309 rfl) (by decide) pd_306 e15 (hwd 308 rfl) (own_selPriv hZ (hwd 87 rfl) (hwd 308 rfl) (hwd 307 rfl) (by decide)) P_E_a0 (g := (mkF m 13 #[vR a0, vI 3] [(.int 3), (.ref a0)])) (rest := []) rfl rfl rfl rfl (y 9 rfl) rfl
      obtain ⟨o19, rfl, Nq18, eq18, hp20⟩ := hQ18
      have N18 := Fr.app N11 Nq18
      refine qb st18 ?_
      show qG p e below _ (T18.setTop (mkF m 16 #[vR a0, vI 3] [(.int o19)]))
      by_cases c21 : o19 = (0 : Int32)
      ·skip
       refine qb (fun _ k => XS.ifYes X18.here hx rfl (pc0 := 16) (pc' := 24) rfl (y 10 rfl) rfl ((if0 _ _).trans (teq c21).1) (by decide) (by decide) k) ?_
       show qG p e below _ (T18.setTop (mkF m 24 #[vR a0, vI 3] []))
       refine qb (fun _ k => XS.iinc X18.here hx rfl (y 16 rfl) rfl (l' := #[vR a0, vI 4]) rfl k) ?_
       show qG p e below _ (T18.setTop (mkF m 27 #[vR a0, vI 4] []))
       refine qb (fun _ k => XS.goto X18.here hx rfl (pc0 := 27) (pc' := 2) rfl (y 17 rfl) (by decide) (by decide) k) ?_
       show qG p e below _ (T18.setTop (mkF m 2 #[vR a0, vI 4] []))
       refine qb (fun _ k => XS.iloadN X18.here hx rfl (y 2 rfl) rfl k) ?_
       refine qb (fun _ k => XS.aloadN X18.here hx rfl (y 3 rfl) rfl rfl k) ?_
       obtain ⟨T22, X22, e22, st22⟩ := getF X18 hx hZ hown (host := "") (Or.inl (hwd 105 rfl)) Via.refl eq18 P_F_a0_relevance (g := (mkF m 4 #[vR a0, vI 4] [(.ref a0), (.int 4)])) rfl rfl (y 4 rfl)
       refine qb st22 ?_
       obtain ⟨cl23, Ar23, qq23, S23, M23, H23, G23⟩ := id P_V_t_a0
       refine qb (fun t k => X22.arraylength hx (by rw [e22]; exact Ar23.1) (State.isArrayOf_alike hZ.alike Ar23.2.1) (g := (mkF m 7 #[vR a0, vI 4] [(.ref t_a0), (.int 4)])) rfl rfl (y 5 rfl) _ k) ?_
       rw [len_of S23 M23]
       show qG p e below _ (T22.setTop (mkF m 8 #[vR a0, vI 4] [(.int n_t_a0), (.int 4)]))
       by_cases c24 : n_t_a0 < (4 : Int32)
       ·skip
        refine qb (fun _ k => XS.icmpYes X22.here hx rfl (pc0 := 8) (pc' := 30) rfl (y 6 rfl) rfl (tlt c24).2.2.1 (by decide) (by decide) k) ?_
        show qG p e below _ (T22.setTop (mkF m 30 #[vR a0, vI 4] []))
        refine qb (fun _ k => XS.dconst0 X22.here hx rfl (y 18 rfl) rfl k) ?_
        show qG p e below _ (T22.setTop (mkF m 31 #[vR a0, vI 4] [(.double FP.dconst0)]))
        exact own_retD X22 hx hrt (y 19 rfl) hlk e22 ⟨_, rfl, N18, rfl, (ob_rrk_108 n_t_a0 fn_t_a0 o5 o12 o19 hn5 hn0 c3 hp6 c7 c10 hp13 c14 c17 hp20 c21 c24)⟩ (by decide) (by decide)
       ·skip
        refine qb (fun _ k => XS.icmpNo X22.here hx rfl (y 6 rfl) rfl (flt c24).2.2.1 k) ?_
        show qG p e below _ (T22.setTop (mkF m 11 #[vR a0, vI 4] []))
        refine qb (fun _ k => XS.aloadN X22.here hx rfl (y 7 rfl) rfl rfl k) ?_
        refine qb (fun _ k => XS.iloadN X22.here hx rfl (y 8 rfl) rfl k) ?_
        obtain ⟨_, T25, Lc25, X25, hQ25, st25⟩ := own_cP X22 hx hZ hown hml (rmisr4 l Z A0 hw [] t_a0 k_t_a0 n_t_a0 fn_t_a0 a0 h0 n0 Z0 P_E_a0 P_F_a0_relevance P_V_t_a0 hn5 (ob_rrk_109 n_t_a0 fn_t_a0 o5 o12 o19 hn5 hn0 c3 hp6 c7 c10 hp13 c14 c17 hp20 c21 c24)) (hwd 306 rfl) (hwd 307 rfl) (hwd 88 rfl) (hwd 309 rfl) (by decide) pd_306 e22 (hwd 308 rfl) (own_selPriv hZ (hwd 87 rfl) (hwd 308 rfl) (hwd 307 rfl) (by decide)) P_E_a0 (g := (mkF m 13 #[vR a0, vI 4] [(.int 4), (.ref a0)])) (rest := []) rfl rfl rfl rfl (y 9 rfl) rfl
        obtain ⟨o26, rfl, Nq25, eq25, hp27⟩ := hQ25
        have N25 := Fr.app N18 Nq25
        refine qb st25 ?_
        show qG p e below _ (T25.setTop (mkF m 16 #[vR a0, vI 4] [(.int o26)]))
        by_cases c28 : o26 = (0 : Int32)
        ·skip
         refine qb (fun _ k => XS.ifYes X25.here hx rfl (pc0 := 16) (pc' := 24) rfl (y 10 rfl) rfl ((if0 _ _).trans (teq c28).1) (by decide) (by decide) k) ?_
         show qG p e below _ (T25.setTop (mkF m 24 #[vR a0, vI 4] []))
         refine qb (fun _ k => XS.iinc X25.here hx rfl (y 16 rfl) rfl (l' := #[vR a0, vI 5]) rfl k) ?_
         show qG p e below _ (T25.setTop (mkF m 27 #[vR a0, vI 5] []))
         refine qb (fun _ k => XS.goto X25.here hx rfl (pc0 := 27) (pc' := 2) rfl (y 17 rfl) (by decide) (by decide) k) ?_
         show qG p e below _ (T25.setTop (mkF m 2 #[vR a0, vI 5] []))
         refine qb (fun _ k => XS.iloadN X25.here hx rfl (y 2 rfl) rfl k) ?_
         refine qb (fun _ k => XS.aloadN X25.here hx rfl (y 3 rfl) rfl rfl k) ?_
         obtain ⟨T29, X29, e29, st29⟩ := getF X25 hx hZ hown (host := "") (Or.inl (hwd 105 rfl)) Via.refl eq25 P_F_a0_relevance (g := (mkF m 4 #[vR a0, vI 5] [(.ref a0), (.int 5)])) rfl rfl (y 4 rfl)
         refine qb st29 ?_
         obtain ⟨cl30, Ar30, qq30, S30, M30, H30, G30⟩ := id P_V_t_a0
         refine qb (fun t k => X29.arraylength hx (by rw [e29]; exact Ar30.1) (State.isArrayOf_alike hZ.alike Ar30.2.1) (g := (mkF m 7 #[vR a0, vI 5] [(.ref t_a0), (.int 5)])) rfl rfl (y 5 rfl) _ k) ?_
         rw [len_of S30 M30]
         show qG p e below _ (T29.setTop (mkF m 8 #[vR a0, vI 5] [(.int n_t_a0), (.int 5)]))
         refine qb (fun _ k => XS.icmpYes X29.here hx rfl (pc0 := 8) (pc' := 30) rfl (y 6 rfl) rfl (tlt hn5).2.2.1 (by decide) (by decide) k) ?_
         show qG p e below _ (T29.setTop (mkF m 30 #[vR a0, vI 5] []))
         refine qb (fun _ k => XS.dconst0 X29.here hx rfl (y 18 rfl) rfl k) ?_
         show qG p e below _ (T29.setTop (mkF m 31 #[vR a0, vI 5] [(.double FP.dconst0)]))
         exact own_retD X29 hx hrt (y 19 rfl) hlk e29 ⟨_, rfl, N25, rfl, (ob_rrk_110 n_t_a0 fn_t_a0 o5 o12 o19 o26 hn5 hn0 c3 hp6 c7 c10 hp13 c14 c17 hp20 c21 c24 hp27 c28)⟩ (by decide) (by decide)
        ·skip
         refine qb (fun _ k => XS.ifNo X25.here hx rfl (y 10 rfl) rfl ((if0 _ _).trans (feq c28).1) k) ?_
         show qG p e below _ (T25.setTop (mkF m 19 #[vR a0, vI 4] []))
         refine qb (fun _ k => XS.dconst1 X25.here hx rfl (y 11 rfl) rfl k) ?_
         show qG p e below _ (T25.setTop (mkF m 20 #[vR a0, vI 4] [(.double FP.dconst1)]))
         refine qb (fun _ k => XS.iloadN X25.here hx rfl (y 12 rfl) rfl k) ?_
         refine qb (fun _ k => XS.i2dS X25.here hx rfl (y 13 rfl) rfl rfl k) ?_
         show qG p e below _ (T25.setTop (mkF m 22 #[vR a0, vI 4] [(.double (FP.i2d (4 : Int32))), (.double FP.dconst1)]))
         refine qb (fun _ k => XS.ddivS X25.here hx rfl (y 14 rfl) rfl (ob_rrk_111 n_t_a0 fn_t_a0 o5 o12 o19 o26 hn5 hn0 c3 hp6 c7 c10 hp13 c14 c17 hp20 c21 c24 hp27 c28) rfl k) ?_
         show qG p e below _ (T25.setTop (mkF m 23 #[vR a0, vI 4] [(.double (FP.ddiv FP.dconst1 (FP.i2d (4 : Int32))))]))
         exact own_retD X25 hx hrt (y 15 rfl) hlk eq25 ⟨_, rfl, N25, rfl, (ob_rrk_112 n_t_a0 fn_t_a0 o5 o12 o19 o26 hn5 hn0 c3 hp6 c7 c10 hp13 c14 c17 hp20 c21 c24 hp27 c28)⟩ (by decide) (by decide)
      ·skip
       refine qb (fun _ k => XS.ifNo X18.here hx rfl (y 10 rfl) rfl ((if0 _ _).trans (feq c21).1) k) ?_
       show qG p e below _ (T18.setTop (mkF m 19 #[vR a0, vI 3] []))
       refine qb (fun _ k => XS.dconst1 X18.here hx rfl (y 11 rfl) rfl k) ?_
       show qG p e below _ (T18.setTop (mkF m 20 #[vR a0, vI 3] [(.double FP.dconst1)]))
       refine qb (fun _ k => XS.iloadN X18.here hx rfl (y 12 rfl) rfl k) ?_
       refine qb (fun _ k => XS.i2dS X18.here hx rfl (y 13 rfl) rfl rfl k) ?_
       show qG p e below _ (T18.setTop (mkF m 22 #[vR a0, vI 3] [(.double (FP.i2d (3 : Int32))), (.double FP.dconst1)]))
       refine qb (fun _ k => XS.ddivS X18.here hx rfl (y 14 rfl) rfl (ob_rrk_113 n_t_a0 fn_t_a0 o5 o12 o19 hn5 hn0 c3 hp6 c7 c10 hp13 c14 c17 hp20 c21) rfl k) ?_
       show qG p e below _ (T18.setTop (mkF m 23 #[vR a0, vI 3] [(.double (FP.ddiv FP.dconst1 (FP.i2d (3 : Int32))))]))
       exact own_retD X18 hx hrt (y 15 rfl) hlk eq18 ⟨_, rfl, N18, rfl, (ob_rrk_114 n_t_a0 fn_t_a0 o5 o12 o19 hn5 hn0 c3 hp6 c7 c10 hp13 c14 c17 hp20 c21)⟩ (by decide) (by decide)
    ·skip
     refine qb (fun _ k => XS.ifNo X11.here hx rfl (y 10 rfl) rfl ((if0 _ _).trans (feq c14).1) k) ?_
     show qG p e below _ (T11.setTop (mkF m 19 #[vR a0, vI 2] []))
     refine qb (fun _ k => XS.dconst1 X11.here hx rfl (y 11 rfl) rfl k) ?_
     show qG p e below _ (T11.setTop (mkF m 20 #[vR a0, vI 2] [(.double FP.dconst1)]))
     refine qb (fun _ k => XS.iloadN X11.here hx rfl (y 12 rfl) rfl k) ?_
     refine qb (fun _ k => XS.i2dS X11.here hx rfl (y 13 rfl) rfl rfl k) ?_
     show qG p e below _ (T11.setTop (mkF m 22 #[vR a0, vI 2] [(.double (FP.i2d (2 : Int32))), (.double FP.dconst1)]))
     refine qb (fun _ k => XS.ddivS X11.here hx rfl (y 14 rfl) rfl (ob_rrk_115 n_t_a0 fn_t_a0 o5 o12 hn5 hn0 c3 hp6 c7 c10 hp13 c14) rfl k) ?_
     show qG p e below _ (T11.setTop (mkF m 23 #[vR a0, vI 2] [(.double (FP.ddiv FP.dconst1 (FP.i2d (2 : Int32))))]))
     exact own_retD X11 hx hrt (y 15 rfl) hlk eq11 ⟨_, rfl, N11, rfl, (ob_rrk_116 n_t_a0 fn_t_a0 o5 o12 hn5 hn0 c3 hp6 c7 c10 hp13 c14)⟩ (by decide) (by decide)
  ·skip
   refine qb (fun _ k => XS.ifNo X4.here hx rfl (y 10 rfl) rfl ((if0 _ _).trans (feq c7).1) k) ?_
   show qG p e below _ (T4.setTop (mkF m 19 #[vR a0, vI 1] []))
   refine qb (fun _ k => XS.dconst1 X4.here hx rfl (y 11 rfl) rfl k) ?_
   show qG p e below _ (T4.setTop (mkF m 20 #[vR a0, vI 1] [(.double FP.dconst1)]))
   refine qb (fun _ k => XS.iloadN X4.here hx rfl (y 12 rfl) rfl k) ?_
   refine qb (fun _ k => XS.i2dS X4.here hx rfl (y 13 rfl) rfl rfl k) ?_
   show qG p e below _ (T4.setTop (mkF m 22 #[vR a0, vI 1] [(.double (FP.i2d (1 : Int32))), (.double FP.dconst1)]))
   refine qb (fun _ k => XS.ddivS X4.here hx rfl (y 14 rfl) rfl (ob_rrk_117 n_t_a0 fn_t_a0 o5 hn5 hn0 c3 hp6 c7) rfl k) ?_
   show qG p e below _ (T4.setTop (mkF m 23 #[vR a0, vI 1] [(.double (FP.ddiv FP.dconst1 (FP.i2d (1 : Int32))))]))
   exact own_retD X4 hx hrt (y 15 rfl) hlk eq4 ⟨_, rfl, N4, rfl, (ob_rrk_118 n_t_a0 fn_t_a0 o5 hn5 hn0 c3 hp6 c7)⟩ (by decide) (by decide)
theorem d13 : own_ds method_3_code [(0, .iload_n 0, 1), (1, .iconst 1, 1), (2, .if_icmp .lt 10, 3), (5, .iload_n 1, 1), (6, .iconst 1, 1), (7, .if_icmp .lt 5, 3), (10, .dconst 1, 1), (11, .dreturn, 1), (12, .iload_n 0, 1), (13, .iconst 2, 1), (14, .if_icmp .lt 12, 3), (17, .iload_n 2, 1), (18, .iconst 1, 1), (19, .if_icmp .lt 7, 3), (22, .ldc2_w 52, 3), (25, .dreturn, 1), (26, .iload_n 0, 1), (27, .iconst 3, 1), (28, .if_icmp .lt 12, 3), (31, .iload_n 3, 1), (32, .iconst 1, 1), (33, .if_icmp .lt 7, 3), (36, .ldc2_w 54, 3), (39, .dreturn, 1), (40, .iload_n 0, 1), (41, .iconst 4, 1), (42, .if_icmp .lt 13, 3), (45, .iload 4, 2), (47, .iconst 1, 1), (48, .if_icmp .lt 7, 3), (51, .ldc2_w 56, 3), (54, .dreturn, 1), (55, .dconst 0, 1), (56, .dreturn, 1)] = true := by decide +kernel
theorem pn_exp : plainName "com/example/libacross/libacross/eval/JudgedRankingReciprocalRankPinLaw" = true := by first | (simp [plainName, overriddenIn]; done) | decide +kernel
theorem ef_exp (m : MethodId) (p0 p1 : Int32) (p2 p3 p4 : Int32) : entryFrame m #[(.int p0), (.int p1), (.int p2), (.int p3), (.int p4)] 5 = mkF m 0 #[vI p0, vI p1, vI p2, vI p3, vI p4] [] := by first | (simp [entryFrame, mkF, argsToLocals, Value.category]; done) | rfl
theorem ob_exp_119 (p0 p1 : Int32) (p2 p3 p4 : Int32) (hn0 : ¬ (p0 < (0 : Int32))) (hn5 : p0 < (5 : Int32)) (hj9 : ((p0 < (1 : Int32))) ∨ ((¬ (p0 < (1 : Int32))) ∧ (p1 < (1 : Int32)))) (hj18 : ((p0 < (2 : Int32))) ∨ ((¬ (p0 < (2 : Int32))) ∧ (p2 < (1 : Int32)))) (hj27 : ((p0 < (3 : Int32))) ∨ ((¬ (p0 < (3 : Int32))) ∧ (p3 < (1 : Int32)))) (hj36 : ((p0 < (4 : Int32))) ∨ ((¬ (p0 < (4 : Int32))) ∧ (p4 < (1 : Int32)))) : FP.dconst0 = own_rr p0 (own_e4 p1 p2 p3 p4) := by
  simp only [own_rr, own_e4]
  rcases own_n5 hn0 hn5 with h | h | h | h | h <;> subst h <;> simp_all (decide := true) [own_dv1, own_dz, own_d1]
theorem ob_exp_120 (p0 p1 : Int32) (p2 p3 p4 : Int32) (hn0 : ¬ (p0 < (0 : Int32))) (hn5 : p0 < (5 : Int32)) (hj9 : ((p0 < (1 : Int32))) ∨ ((¬ (p0 < (1 : Int32))) ∧ (p1 < (1 : Int32)))) (hj18 : ((p0 < (2 : Int32))) ∨ ((¬ (p0 < (2 : Int32))) ∧ (p2 < (1 : Int32)))) (hj27 : ((p0 < (3 : Int32))) ∨ ((¬ (p0 < (3 : Int32))) ∧ (p3 < (1 : Int32)))) (c28 : ¬ (p0 < (4 : Int32))) (c29 : ¬ (p4 < (1 : Int32))) : (4598175219545276416 : UInt64) = own_rr p0 (own_e4 p1 p2 p3 p4) := by
  simp only [own_rr, own_e4]
  rcases own_n5 hn0 hn5 with h | h | h | h | h <;> subst h <;> simp_all (decide := true) [own_dv1, own_dz, own_d1]
theorem ob_exp_121 (p0 p1 : Int32) (p2 p3 p4 : Int32) (hn0 : ¬ (p0 < (0 : Int32))) (hn5 : p0 < (5 : Int32)) (hj9 : ((p0 < (1 : Int32))) ∨ ((¬ (p0 < (1 : Int32))) ∧ (p1 < (1 : Int32)))) (hj18 : ((p0 < (2 : Int32))) ∨ ((¬ (p0 < (2 : Int32))) ∧ (p2 < (1 : Int32)))) (c19 : ¬ (p0 < (3 : Int32))) (c20 : ¬ (p3 < (1 : Int32))) : (4599676419421066581 : UInt64) = own_rr p0 (own_e4 p1 p2 p3 p4) := by
  simp only [own_rr, own_e4]
  rcases own_n5 hn0 hn5 with h | h | h | h | h <;> subst h <;> simp_all (decide := true) [own_dv1, own_dz, own_d1]
theorem ob_exp_122 (p0 p1 : Int32) (p2 p3 p4 : Int32) (hn0 : ¬ (p0 < (0 : Int32))) (hn5 : p0 < (5 : Int32)) (hj9 : ((p0 < (1 : Int32))) ∨ ((¬ (p0 < (1 : Int32))) ∧ (p1 < (1 : Int32)))) (c10 : ¬ (p0 < (2 : Int32))) (c11 : ¬ (p2 < (1 : Int32))) : (4602678819172646912 : UInt64) = own_rr p0 (own_e4 p1 p2 p3 p4) := by
  simp only [own_rr, own_e4]
  rcases own_n5 hn0 hn5 with h | h | h | h | h <;> subst h <;> simp_all (decide := true) [own_dv1, own_dz, own_d1]
theorem ob_exp_123 (p0 p1 : Int32) (p2 p3 p4 : Int32) (hn0 : ¬ (p0 < (0 : Int32))) (hn5 : p0 < (5 : Int32)) (c1 : ¬ (p0 < (1 : Int32))) (c2 : ¬ (p1 < (1 : Int32))) : FP.dconst1 = own_rr p0 (own_e4 p1 p2 p3 p4) := by
  simp only [own_rr, own_e4]
  rcases own_n5 hn0 hn5 with h | h | h | h | h <;> subst h <;> simp_all (decide := true) [own_dv1, own_dz, own_d1]
def Qexp (Z : State) (p0 p1 : Int32) (p2 p3 p4 : Int32) (h0 : Heap) (n0 : Nat) (v : Option Value) (h : Heap) (L : List Loc) : Prop := ∃ (zz : UInt64), v = some (.double zz) ∧ Fr n0 L ∧ h = h0 ∧ (zz = own_rr p0 (own_e4 p1 p2 p3 p4))
theorem rmexp (l : Launch) (Z : State) (A0 : Array Value) (hw : ∀ d ∈ tables_1, d.before A0 Z = true) (ws : List Jvm.Cond) (p0 p1 : Int32) (p2 p3 p4 : Int32) (h0 : Heap) (n0 : Nat) (Z0 : n0 ≤ h0.size) (hn0 : ¬ (p0 < (0 : Int32))) (hn5 : p0 < (5 : Int32)) :
  qM l Z (⟨"com/example/libacross/libacross/eval/JudgedRankingReciprocalRankPinLaw", "expected", "(IIIII)D"⟩ : MethodName) method_3_code 5 (some .double) ws ({ frames := 0, cells := 0, slots := 0, locals := 0 } : Room) #[(.int p0), (.int p1), (.int p2), (.int p3), (.int p4)] h0 (Qexp Z p0 p1 p2 p3 p4 h0 n0) 0 0 := qe d13 (plainFor_of_name pn_exp) (fun m => ef_exp m p0 p1 p2 p3 p4) fun p e s m below meth c s₁ hx y hml hlk hown hnm X0 e0 hZ hrt => by
 have hwd := qw hw
 have N0 := Fr.nil n0
 show qG p e below _ (s₁.setTop (mkF m 0 #[vI p0, vI p1, vI p2, vI p3, vI p4] []))
 refine qb (fun _ k => XS.iloadN X0.here hx rfl (y 0 rfl) rfl k) ?_
 refine qb (fun _ k => XS.iconst X0.here hx rfl (y 1 rfl) k) ?_
 have J3 : ∀ (T4 : State) (L5 : List Loc), Stand p l e ({ frames := 0, cells := 0, slots := 0, locals := 0 } : Room) s m #[(.int p0), (.int p1), (.int p2), (.int p3), (.int p4)] below meth c T4 L5 0 0 → T4.heap = h0 → Fr n0 L5 → (((p0 < (1 : Int32))) ∨ ((¬ (p0 < (1 : Int32))) ∧ (p1 < (1 : Int32)))) → qG p e below (own_Fin s 0 0 (Qexp Z p0 p1 p2 p3 p4 h0 n0)) (T4.setTop (mkF m 12 #[vI p0, vI p1, vI p2, vI p3, vI p4] [])) := by
  intro T4 L5 X6 e7 N8 hj9
  refine qb (fun _ k => XS.iloadN X6.here hx rfl (y 8 rfl) rfl k) ?_
  refine qb (fun _ k => XS.iconst X6.here hx rfl (y 9 rfl) k) ?_
  have J12 : ∀ (T13 : State) (L14 : List Loc), Stand p l e ({ frames := 0, cells := 0, slots := 0, locals := 0 } : Room) s m #[(.int p0), (.int p1), (.int p2), (.int p3), (.int p4)] below meth c T13 L14 0 0 → T13.heap = h0 → Fr n0 L14 → (((p0 < (2 : Int32))) ∨ ((¬ (p0 < (2 : Int32))) ∧ (p2 < (1 : Int32)))) → qG p e below (own_Fin s 0 0 (Qexp Z p0 p1 p2 p3 p4 h0 n0)) (T13.setTop (mkF m 26 #[vI p0, vI p1, vI p2, vI p3, vI p4] [])) := by
   intro T13 L14 X15 e16 N17 hj18
   refine qb (fun _ k => XS.iloadN X15.here hx rfl (y 16 rfl) rfl k) ?_
   refine qb (fun _ k => XS.iconst X15.here hx rfl (y 17 rfl) k) ?_
   have J21 : ∀ (T22 : State) (L23 : List Loc), Stand p l e ({ frames := 0, cells := 0, slots := 0, locals := 0 } : Room) s m #[(.int p0), (.int p1), (.int p2), (.int p3), (.int p4)] below meth c T22 L23 0 0 → T22.heap = h0 → Fr n0 L23 → (((p0 < (3 : Int32))) ∨ ((¬ (p0 < (3 : Int32))) ∧ (p3 < (1 : Int32)))) → qG p e below (own_Fin s 0 0 (Qexp Z p0 p1 p2 p3 p4 h0 n0)) (T22.setTop (mkF m 40 #[vI p0, vI p1, vI p2, vI p3, vI p4] [])) := by
    intro T22 L23 X24 e25 N26 hj27
    refine qb (fun _ k => XS.iloadN X24.here hx rfl (y 24 rfl) rfl k) ?_
    refine qb (fun _ k => XS.iconst X24.here hx rfl (y 25 rfl) k) ?_
    have J30 : ∀ (T31 : State) (L32 : List Loc), Stand p l e ({ frames := 0, cells := 0, slots := 0, locals := 0 } : Room) s m #[(.int p0), (.int p1), (.int p2), (.int p3), (.int p4)] below meth c T31 L32 0 0 → T31.heap = h0 → Fr n0 L32 → (((p0 < (4 : Int32))) ∨ ((¬ (p0 < (4 : Int32))) ∧ (p4 < (1 : Int32)))) → qG p e below (own_Fin s 0 0 (Qexp Z p0 p1 p2 p3 p4 h0 n0)) (T31.setTop (mkF m 55 #[vI p0, vI p1, vI p2, vI p3, vI p4] [])) := by
     intro T31 L32 X33 e34 N35 hj36
     refine qb (fun _ k => XS.dconst0 X33.here hx rfl (y 32 rfl) rfl k) ?_
     show qG p e below _ (T31.setTop (mkF m 56 #[vI p0, vI p1, vI p2, vI p3, vI p4] [(.double FP.dconst0)]))
     exact own_retD X33 hx hrt (y 33 rfl) hlk e34 ⟨_, rfl, N35, rfl, (ob_exp_119 p0 p1 p2 p3 p4 hn0 hn5 hj9 hj18 hj27 hj36)⟩ (by decide) (by decide)
    by_cases c28 : p0 < (4 : Int32)
    ·skip
     refine qb (fun _ k => XS.icmpYes X24.here hx rfl (pc0 := 42) (pc' := 55) rfl (y 26 rfl) rfl (tlt c28).1 (by decide) (by decide) k) ?_
     show qG p e below _ (T22.setTop (mkF m 55 #[vI p0, vI p1, vI p2, vI p3, vI p4] []))
     exact J30 _ _ X24 e25 N26 (Or.inl c28)
    ·skip
     refine qb (fun _ k => XS.icmpNo X24.here hx rfl (y 26 rfl) rfl (flt c28).1 k) ?_
     show qG p e below _ (T22.setTop (mkF m 45 #[vI p0, vI p1, vI p2, vI p3, vI p4] []))
     refine qb (fun _ k => XS.iload X24.here hx rfl (y 27 rfl) rfl k) ?_
     refine qb (fun _ k => XS.iconst X24.here hx rfl (y 28 rfl) k) ?_
     by_cases c29 : p4 < (1 : Int32)
     ·skip
      refine qb (fun _ k => XS.icmpYes X24.here hx rfl (pc0 := 48) (pc' := 55) rfl (y 29 rfl) rfl (tlt c29).1 (by decide) (by decide) k) ?_
      show qG p e below _ (T22.setTop (mkF m 55 #[vI p0, vI p1, vI p2, vI p3, vI p4] []))
      exact J30 _ _ X24 e25 N26 (Or.inr (⟨c28, c29⟩))
     ·skip
      refine qb (fun _ k => XS.icmpNo X24.here hx rfl (y 29 rfl) rfl (flt c29).1 k) ?_
      show qG p e below _ (T22.setTop (mkF m 51 #[vI p0, vI p1, vI p2, vI p3, vI p4] []))
      refine qb (fun t k => X24.ldc2DoubleC hx hown (mvT hZ (hwd 418 rfl)) (g := (mkF m 51 #[vI p0, vI p1, vI p2, vI p3, vI p4] [])) rfl (y 30 rfl) _ k) ?_
      show qG p e below _ (T22.setTop (mkF m 54 #[vI p0, vI p1, vI p2, vI p3, vI p4] [(.double (4598175219545276416 : UInt64))]))
      exact own_retD X24 hx hrt (y 31 rfl) hlk e25 ⟨_, rfl, N26, rfl, (ob_exp_120 p0 p1 p2 p3 p4 hn0 hn5 hj9 hj18 hj27 c28 c29)⟩ (by decide) (by decide)
   by_cases c19 : p0 < (3 : Int32)
   ·skip
    refine qb (fun _ k => XS.icmpYes X15.here hx rfl (pc0 := 28) (pc' := 40) rfl (y 18 rfl) rfl (tlt c19).1 (by decide) (by decide) k) ?_
    show qG p e below _ (T13.setTop (mkF m 40 #[vI p0, vI p1, vI p2, vI p3, vI p4] []))
    exact J21 _ _ X15 e16 N17 (Or.inl c19)
   ·skip
    refine qb (fun _ k => XS.icmpNo X15.here hx rfl (y 18 rfl) rfl (flt c19).1 k) ?_
    show qG p e below _ (T13.setTop (mkF m 31 #[vI p0, vI p1, vI p2, vI p3, vI p4] []))
    refine qb (fun _ k => XS.iloadN X15.here hx rfl (y 19 rfl) rfl k) ?_
    refine qb (fun _ k => XS.iconst X15.here hx rfl (y 20 rfl) k) ?_
    by_cases c20 : p3 < (1 : Int32)
    ·skip
     refine qb (fun _ k => XS.icmpYes X15.here hx rfl (pc0 := 33) (pc' := 40) rfl (y 21 rfl) rfl (tlt c20).1 (by decide) (by decide) k) ?_
     show qG p e below _ (T13.setTop (mkF m 40 #[vI p0, vI p1, vI p2, vI p3, vI p4] []))
     exact J21 _ _ X15 e16 N17 (Or.inr (⟨c19, c20⟩))
    ·skip
     refine qb (fun _ k => XS.icmpNo X15.here hx rfl (y 21 rfl) rfl (flt c20).1 k) ?_
     show qG p e below _ (T13.setTop (mkF m 36 #[vI p0, vI p1, vI p2, vI p3, vI p4] []))
     refine qb (fun t k => X15.ldc2DoubleC hx hown (mvT hZ (hwd 417 rfl)) (g := (mkF m 36 #[vI p0, vI p1, vI p2, vI p3, vI p4] [])) rfl (y 22 rfl) _ k) ?_
     show qG p e below _ (T13.setTop (mkF m 39 #[vI p0, vI p1, vI p2, vI p3, vI p4] [(.double (4599676419421066581 : UInt64))]))
     exact own_retD X15 hx hrt (y 23 rfl) hlk e16 ⟨_, rfl, N17, rfl, (ob_exp_121 p0 p1 p2 p3 p4 hn0 hn5 hj9 hj18 c19 c20)⟩ (by decide) (by decide)
  by_cases c10 : p0 < (2 : Int32)
  ·skip
   refine qb (fun _ k => XS.icmpYes X6.here hx rfl (pc0 := 14) (pc' := 26) rfl (y 10 rfl) rfl (tlt c10).1 (by decide) (by decide) k) ?_
   show qG p e below _ (T4.setTop (mkF m 26 #[vI p0, vI p1, vI p2, vI p3, vI p4] []))
   exact J12 _ _ X6 e7 N8 (Or.inl c10)
  ·skip
   refine qb (fun _ k => XS.icmpNo X6.here hx rfl (y 10 rfl) rfl (flt c10).1 k) ?_
   show qG p e below _ (T4.setTop (mkF m 17 #[vI p0, vI p1, vI p2, vI p3, vI p4] []))
   refine qb (fun _ k => XS.iloadN X6.here hx rfl (y 11 rfl) rfl k) ?_
   refine qb (fun _ k => XS.iconst X6.here hx rfl (y 12 rfl) k) ?_
   by_cases c11 : p2 < (1 : Int32)
   ·skip
    refine qb (fun _ k => XS.icmpYes X6.here hx rfl (pc0 := 19) (pc' := 26) rfl (y 13 rfl) rfl (tlt c11).1 (by decide) (by decide) k) ?_
    show qG p e below _ (T4.setTop (mkF m 26 #[vI p0, vI p1, vI p2, vI p3, vI p4] []))
    exact J12 _ _ X6 e7 N8 (Or.inr (⟨c10, c11⟩))
   ·skip
    refine qb (fun _ k => XS.icmpNo X6.here hx rfl (y 13 rfl) rfl (flt c11).1 k) ?_
    show qG p e below _ (T4.setTop (mkF m 22 #[vI p0, vI p1, vI p2, vI p3, vI p4] []))
    refine qb (fun t k => X6.ldc2DoubleC hx hown (mvT hZ (hwd 416 rfl)) (g := (mkF m 22 #[vI p0, vI p1, vI p2, vI p3, vI p4] [])) rfl (y 14 rfl) _ k) ?_
    show qG p e below _ (T4.setTop (mkF m 25 #[vI p0, vI p1, vI p2, vI p3, vI p4] [(.double (4602678819172646912 : UInt64))]))
    exact own_retD X6 hx hrt (y 15 rfl) hlk e7 ⟨_, rfl, N8, rfl, (ob_exp_122 p0 p1 p2 p3 p4 hn0 hn5 hj9 c10 c11)⟩ (by decide) (by decide)
 by_cases c1 : p0 < (1 : Int32)
 ·skip
  refine qb (fun _ k => XS.icmpYes X0.here hx rfl (pc0 := 2) (pc' := 12) rfl (y 2 rfl) rfl (tlt c1).1 (by decide) (by decide) k) ?_
  show qG p e below _ (s₁.setTop (mkF m 12 #[vI p0, vI p1, vI p2, vI p3, vI p4] []))
  exact J3 _ _ X0 e0 N0 (Or.inl c1)
 ·skip
  refine qb (fun _ k => XS.icmpNo X0.here hx rfl (y 2 rfl) rfl (flt c1).1 k) ?_
  show qG p e below _ (s₁.setTop (mkF m 5 #[vI p0, vI p1, vI p2, vI p3, vI p4] []))
  refine qb (fun _ k => XS.iloadN X0.here hx rfl (y 3 rfl) rfl k) ?_
  refine qb (fun _ k => XS.iconst X0.here hx rfl (y 4 rfl) k) ?_
  by_cases c2 : p1 < (1 : Int32)
  ·skip
   refine qb (fun _ k => XS.icmpYes X0.here hx rfl (pc0 := 7) (pc' := 12) rfl (y 5 rfl) rfl (tlt c2).1 (by decide) (by decide) k) ?_
   show qG p e below _ (s₁.setTop (mkF m 12 #[vI p0, vI p1, vI p2, vI p3, vI p4] []))
   exact J3 _ _ X0 e0 N0 (Or.inr (⟨c1, c2⟩))
  ·skip
   refine qb (fun _ k => XS.icmpNo X0.here hx rfl (y 5 rfl) rfl (flt c2).1 k) ?_
   show qG p e below _ (s₁.setTop (mkF m 10 #[vI p0, vI p1, vI p2, vI p3, vI p4] []))
   refine qb (fun _ k => XS.dconst1 X0.here hx rfl (y 6 rfl) rfl k) ?_
   show qG p e below _ (s₁.setTop (mkF m 11 #[vI p0, vI p1, vI p2, vI p3, vI p4] [(.double FP.dconst1)]))
   exact own_retD X0 hx hrt (y 7 rfl) hlk e0 ⟨_, rfl, N0, rfl, (ob_exp_123 p0 p1 p2 p3 p4 hn0 hn5 c1 c2)⟩ (by decide) (by decide)
theorem pd_0 : parseMethodDescriptor "(C)Ljava/lang/String;" = some ⟨[.char], some (.object "java/lang/String")⟩ := by decide +kernel
theorem pd_29 : parseMethodDescriptor "(Ljava/lang/String;D)V" = some ⟨[(.object "java/lang/String"), .double], none⟩ := by decide +kernel
theorem pd_219 : parseMethodDescriptor "(Ljava/lang/Object;)Z" = some ⟨[(.object "java/lang/Object")], some .boolean⟩ := by decide +kernel
theorem pd_82 : parseMethodDescriptor "(IIIII)D" = some ⟨[.int, .int, .int, .int, .int], some .double⟩ := by decide +kernel
theorem pd_89 : parseMethodDescriptor "(Ljava/util/List;Ljava/util/Map;)V" = some ⟨[(.object "java/util/List"), (.object "java/util/Map")], none⟩ := by decide +kernel
theorem pd_214 : parseMethodDescriptor "()D" = some ⟨[], some .double⟩ := by decide +kernel
theorem ef_0 (m : MethodId) (p0 p1 : Int32) (p2 p3 : Int32) (p4 p5 : Int32) : entryFrame m #[(.int p0), (.int p1), (.int p2), (.int p3), (.int p4), (.int p5)] maxLocals = mkF m 0 #[vI p0, vI p1, vI p2, vI p3, vI p4, vI p5, .unset, .unset, .unset, .unset, .unset, .unset, .unset, .unset, .unset, .unset, .unset, .unset, .unset, .unset, .unset, .unset, .unset, .unset, .unset, .unset] [] := by first | (simp [entryFrame, mkF, argsToLocals, Value.category, maxLocals]; done) | rfl
theorem ob_0_124 (f_CS p0 : Int32) (p1 p2 : Int32) (p3 p4 : Int32) (p5 v1 : Int32) (v2 z904 : Int32) (z913 z922 z931 : Int32) (b934 : UInt64) (b955 : Nat → Int32) (b964 : UInt64) (hn_CS : ¬ (f_CS = (0 : Int32))) (hv1 : ((p0 &&& (7 : Int32)) % (5 : Int32)) = v1) (hn0 : ¬ (v1 < (0 : Int32))) (hn5 : v1 < (5 : Int32)) (hv2 : (((p0.toUInt32 >>> ((3 : Int32) &&& 31).toUInt32).toInt32) &&& (31 : Int32)) = v2) (hj905 : (((v2 &&& (1 : Int32)) = (0 : Int32)) ∧ z904 = (0 : Int32)) ∨ ((¬ ((v2 &&& (1 : Int32)) = (0 : Int32))) ∧ z904 = p1)) (hj914 : (((v2 &&& (2 : Int32)) = (0 : Int32)) ∧ z913 = (0 : Int32)) ∨ ((¬ ((v2 &&& (2 : Int32)) = (0 : Int32))) ∧ z913 = p2)) (hj923 : (((v2 &&& (4 : Int32)) = (0 : Int32)) ∧ z922 = (0 : Int32)) ∨ ((¬ ((v2 &&& (4 : Int32)) = (0 : Int32))) ∧ z922 = p3)) (hj932 : (((v2 &&& (8 : Int32)) = (0 : Int32)) ∧ z931 = (0 : Int32)) ∨ ((¬ ((v2 &&& (8 : Int32)) = (0 : Int32))) ∧ z931 = p4)) (hp935 : b934 = own_rr v1 (own_e4 z904 z913 z922 z931)) (hp962 : own_G (own_C v2 5) (own_X p1 p2 p3 p4 p5) b955 (v1).toNatClampNeg) (hp965 : b964 = own_rr v1 b955) (c966 : ¬ ((cmpValue (FP.dcmp b964 b934) .l) = (0 : Int32))) : False := by
  exact own_finA c966 hp965 hp935 hp962 hj905 hj914 hj923 hj932 hn0 hn5
theorem ob_0_125 (f_CS p0 : Int32) (v1 v2 : Int32) (hn_CS : ¬ (f_CS = (0 : Int32))) (hv1 : ((p0 &&& (7 : Int32)) % (5 : Int32)) = v1) (hn0 : ¬ (v1 < (0 : Int32))) (hn5 : v1 < (5 : Int32)) (hv2 : (((p0.toUInt32 >>> ((3 : Int32) &&& 31).toUInt32).toInt32) &&& (31 : Int32)) = v2) (c142 : v1 < (1 : Int32)) : v1 < (2 : Int32) := by
  exact own_lt1 (by assumption) (by decide)
theorem ob_0_126 (f_CS p0 : Int32) (v1 v2 : Int32) (hn_CS : ¬ (f_CS = (0 : Int32))) (hv1 : ((p0 &&& (7 : Int32)) % (5 : Int32)) = v1) (hn0 : ¬ (v1 < (0 : Int32))) (hn5 : v1 < (5 : Int32)) (hv2 : (((p0.toUInt32 >>> ((3 : Int32) &&& 31).toUInt32).toInt32) &&& (31 : Int32)) = v2) (c142 : v1 < (1 : Int32)) : v1 < (3 : Int32) := by
  exact own_lt1 (by assumption) (by decide)
theorem ob_0_127 (f_CS p0 : Int32) (v1 v2 : Int32) (hn_CS : ¬ (f_CS = (0 : Int32))) (hv1 : ((p0 &&& (7 : Int32)) % (5 : Int32)) = v1) (hn0 : ¬ (v1 < (0 : Int32))) (hn5 : v1 < (5 : Int32)) (hv2 : (((p0.toUInt32 >>> ((3 : Int32) &&& 31).toUInt32).toInt32) &&& (31 : Int32)) = v2) (c142 : v1 < (1 : Int32)) : v1 < (4 : Int32) := by
  exact own_lt1 (by assumption) (by decide)
theorem ob_0_128 (f_CS p0 : Int32) (v1 v2 : Int32) (hn_CS : ¬ (f_CS = (0 : Int32))) (hv1 : ((p0 &&& (7 : Int32)) % (5 : Int32)) = v1) (hn0 : ¬ (v1 < (0 : Int32))) (hn5 : v1 < (5 : Int32)) (hv2 : (((p0.toUInt32 >>> ((3 : Int32) &&& 31).toUInt32).toInt32) &&& (31 : Int32)) = v2) (c142 : v1 < (1 : Int32)) : (0 : Int32) = v1 := by
  exact own_eqk (by assumption) (by assumption) (by decide)
theorem ob_0_129 (f_CS p0 : Int32) (v1 v2 : Int32) (hn_CS : ¬ (f_CS = (0 : Int32))) (hv1 : ((p0 &&& (7 : Int32)) % (5 : Int32)) = v1) (hn0 : ¬ (v1 < (0 : Int32))) (hn5 : v1 < (5 : Int32)) (hv2 : (((p0.toUInt32 >>> ((3 : Int32) &&& 31).toUInt32).toInt32) &&& (31 : Int32)) = v2) (c142 : ¬ (v1 < (1 : Int32))) (c173 : v1 < (2 : Int32)) : v1 < (3 : Int32) := by
  exact own_lt1 (by assumption) (by decide)
theorem ob_0_130 (f_CS p0 : Int32) (v1 v2 : Int32) (hn_CS : ¬ (f_CS = (0 : Int32))) (hv1 : ((p0 &&& (7 : Int32)) % (5 : Int32)) = v1) (hn0 : ¬ (v1 < (0 : Int32))) (hn5 : v1 < (5 : Int32)) (hv2 : (((p0.toUInt32 >>> ((3 : Int32) &&& 31).toUInt32).toInt32) &&& (31 : Int32)) = v2) (c142 : ¬ (v1 < (1 : Int32))) (c173 : v1 < (2 : Int32)) : v1 < (4 : Int32) := by
  exact own_lt1 (by assumption) (by decide)
theorem ob_0_131 (f_CS p0 : Int32) (v1 v2 : Int32) (hn_CS : ¬ (f_CS = (0 : Int32))) (hv1 : ((p0 &&& (7 : Int32)) % (5 : Int32)) = v1) (hn0 : ¬ (v1 < (0 : Int32))) (hn5 : v1 < (5 : Int32)) (hv2 : (((p0.toUInt32 >>> ((3 : Int32) &&& 31).toUInt32).toInt32) &&& (31 : Int32)) = v2) (c142 : ¬ (v1 < (1 : Int32))) (c173 : v1 < (2 : Int32)) : (1 : Int32) = v1 := by
  exact own_eqk (by assumption) (by assumption) (by decide)
theorem ob_0_132 (f_CS p0 : Int32) (v1 v2 : Int32) (hn_CS : ¬ (f_CS = (0 : Int32))) (hv1 : ((p0 &&& (7 : Int32)) % (5 : Int32)) = v1) (hn0 : ¬ (v1 < (0 : Int32))) (hn5 : v1 < (5 : Int32)) (hv2 : (((p0.toUInt32 >>> ((3 : Int32) &&& 31).toUInt32).toInt32) &&& (31 : Int32)) = v2) (c142 : ¬ (v1 < (1 : Int32))) (c173 : ¬ (v1 < (2 : Int32))) (c189 : v1 < (3 : Int32)) : v1 < (4 : Int32) := by
  exact own_lt1 (by assumption) (by decide)
theorem ob_0_133 (f_CS p0 : Int32) (v1 v2 : Int32) (hn_CS : ¬ (f_CS = (0 : Int32))) (hv1 : ((p0 &&& (7 : Int32)) % (5 : Int32)) = v1) (hn0 : ¬ (v1 < (0 : Int32))) (hn5 : v1 < (5 : Int32)) (hv2 : (((p0.toUInt32 >>> ((3 : Int32) &&& 31).toUInt32).toInt32) &&& (31 : Int32)) = v2) (c142 : ¬ (v1 < (1 : Int32))) (c173 : ¬ (v1 < (2 : Int32))) (c189 : v1 < (3 : Int32)) : (2 : Int32) = v1 := by
  exact own_eqk (by assumption) (by assumption) (by decide)
theorem ob_0_134 (f_CS p0 : Int32) (v1 v2 : Int32) (hn_CS : ¬ (f_CS = (0 : Int32))) (hv1 : ((p0 &&& (7 : Int32)) % (5 : Int32)) = v1) (hn0 : ¬ (v1 < (0 : Int32))) (hn5 : v1 < (5 : Int32)) (hv2 : (((p0.toUInt32 >>> ((3 : Int32) &&& 31).toUInt32).toInt32) &&& (31 : Int32)) = v2) (c142 : ¬ (v1 < (1 : Int32))) (c173 : ¬ (v1 < (2 : Int32))) (c189 : ¬ (v1 < (3 : Int32))) (c211 : v1 < (4 : Int32)) : (3 : Int32) = v1 := by
  exact own_eqk (by assumption) (by assumption) (by decide)
theorem ob_0_135 (f_CS p0 : Int32) (v1 v2 : Int32) (hn_CS : ¬ (f_CS = (0 : Int32))) (hv1 : ((p0 &&& (7 : Int32)) % (5 : Int32)) = v1) (hn0 : ¬ (v1 < (0 : Int32))) (hn5 : v1 < (5 : Int32)) (hv2 : (((p0.toUInt32 >>> ((3 : Int32) &&& 31).toUInt32).toInt32) &&& (31 : Int32)) = v2) (c142 : ¬ (v1 < (1 : Int32))) (c173 : ¬ (v1 < (2 : Int32))) (c189 : ¬ (v1 < (3 : Int32))) (c211 : ¬ (v1 < (4 : Int32))) : (4 : Int32) = v1 := by
  exact own_eqk (by assumption) (by assumption) (by decide)
def Q0 (Z : State) (f_CS : Int32) (f_DE : Addr) (k_f_DE : ClassId) (fn_f_DE : Nat → Value) (f_CA : Addr) (k_CA : ClassId) (fn_CA : Nat → Value) (p0 p1 : Int32) (p2 p3 : Int32) (p4 p5 : Int32) (h0 : Heap) (n0 : Nat) (v : Option Value) (h : Heap) (L : List Loc) : Prop := v = some (.int 1) ∧ Fr n0 L
theorem rm0 (l : Launch) (Z : State) (A0 : Array Value) (hw : ∀ d ∈ tables_1, d.before A0 Z = true) (ws : List Jvm.Cond) (f_CS : Int32) (f_DE : Addr) (k_f_DE : ClassId) (fn_f_DE : Nat → Value) (f_CA : Addr) (k_CA : ClassId) (fn_CA : Nat → Value) (p0 p1 : Int32) (p2 p3 : Int32) (p4 p5 : Int32) (h0 : Heap) (n0 : Nat) (Z0 : n0 ≤ h0.size) (P_S_CS : Sta Z h0 cST "COMPACT_STRINGS" "Z" (.int f_CS)) (hn_CS : ¬ (f_CS = (0 : Int32))) (P_S_DE : Sta Z h0 cAL "DEFAULTCAPACITY_EMPTY_ELEMENTDATA" "[Ljava/lang/Object;" (.ref f_DE)) (P_V_f_DE : qA Z h0 f_DE k_f_DE (.object "java/lang/Object") (0 : Int32) (fun i => fn_f_DE i)) (P_E_f_DE : Exa Z h0 f_DE "[Ljava/lang/Object;") (P_S_HI : Sta Z h0 "java/lang/Integer$IntegerCache" "high" "I" (.int 127)) (P_S_CA : Sta Z h0 "java/lang/Integer$IntegerCache" "cache" "[Ljava/lang/Integer;" (.ref f_CA)) (P_Ca : own_Ca Z h0 f_CA k_CA fn_CA) :
  qM l Z x code maxLocals ret ws room_1 #[(.int p0), (.int p1), (.int p2), (.int p3), (.int p4), (.int p5)] h0 (Q0 Z f_CS f_DE k_f_DE fn_f_DE f_CA k_CA fn_CA p0 p1 p2 p3 p4 p5 h0 n0) 80 320 := own_enter (plainFor_of_name pn_exp) (fun m => ef_0 m p0 p1 p2 p3 p4 p5) fun p e s m below meth c s₁ hx hby hml hlk hown hnm X0 e0 hZ hrt => by
 have hwd := qw hw
 have N0 := Fr.nil n0
 show qG p e below _ (s₁.setTop (mkF m 0 #[vI p0, vI p1, vI p2, vI p3, vI p4, vI p5, .unset, .unset, .unset, .unset, .unset, .unset, .unset, .unset, .unset, .unset, .unset, .unset, .unset, .unset, .unset, .unset, .unset, .unset, .unset, .unset] []))
 refine qb (fun _ k => XS.iloadN X0.here hx rfl (hb hby at_0) rfl k) ?_
 refine qb (fun _ k => XS.bipush X0.here hx rfl (hb hby at_1) k) ?_
 refine qb (fun _ k => XS.iand X0.here hx rfl (hb hby at_3) rfl k) ?_
 refine qb (fun _ k => XS.iconst X0.here hx rfl (hb hby at_4) k) ?_
 refine qb (fun _ k => iremM X0 hx rfl (hb hby at_5) rfl (by decide) k) ?_
 show qG p e below _ (s₁.setTop (mkF m 6 #[vI p0, vI p1, vI p2, vI p3, vI p4, vI p5, .unset, .unset, .unset, .unset, .unset, .unset, .unset, .unset, .unset, .unset, .unset, .unset, .unset, .unset, .unset, .unset, .unset, .unset, .unset, .unset] [(.int ((p0 &&& (7 : Int32)) % (5 : Int32)))]))
 refine qb (fun _ k => XS.istore X0.here hx rfl (hb hby at_6) rfl (l' := #[vI p0, vI p1, vI p2, vI p3, vI p4, vI p5, vI ((p0 &&& (7 : Int32)) % (5 : Int32)), .unset, .unset, .unset, .unset, .unset, .unset, .unset, .unset, .unset, .unset, .unset, .unset, .unset, .unset, .unset, .unset, .unset, .unset, .unset]) rfl k) ?_
 show qG p e below _ (s₁.setTop (mkF m 8 #[vI p0, vI p1, vI p2, vI p3, vI p4, vI p5, vI ((p0 &&& (7 : Int32)) % (5 : Int32)), .unset, .unset, .unset, .unset, .unset, .unset, .unset, .unset, .unset, .unset, .unset, .unset, .unset, .unset, .unset, .unset, .unset, .unset, .unset] []))
 generalize hv1 : ((p0 &&& (7 : Int32)) % (5 : Int32)) = v1
 show qG p e below _ (s₁.setTop (mkF m 8 #[vI p0, vI p1, vI p2, vI p3, vI p4, vI p5, vI v1, .unset, .unset, .unset, .unset, .unset, .unset, .unset, .unset, .unset, .unset, .unset, .unset, .unset, .unset, .unset, .unset, .unset, .unset, .unset] []))
 have hn0 : ¬ (v1 < (0 : Int32)) := own_mod0 hv1
 have hn5 : v1 < (5 : Int32) := own_mod5 hv1
 refine qb (fun _ k => XS.iloadN X0.here hx rfl (hb hby at_8) rfl k) ?_
 refine qb (fun _ k => XS.iconst X0.here hx rfl (hb hby at_9) k) ?_
 refine qb (fun _ k => XS.iushr X0.here hx rfl (hb hby at_10) rfl k) ?_
 refine qb (fun _ k => XS.bipush X0.here hx rfl (hb hby at_11) k) ?_
 refine qb (fun _ k => XS.iand X0.here hx rfl (hb hby at_13) rfl k) ?_
 refine qb (fun _ k => XS.istore X0.here hx rfl (hb hby at_14) rfl (l' := #[vI p0, vI p1, vI p2, vI p3, vI p4, vI p5, vI v1, vI (((p0.toUInt32 >>> ((3 : Int32) &&& 31).toUInt32).toInt32) &&& (31 : Int32)), .unset, .unset, .unset, .unset, .unset, .unset, .unset, .unset, .unset, .unset, .unset, .unset, .unset, .unset, .unset, .unset, .unset, .unset]) rfl k) ?_
 show qG p e below _ (s₁.setTop (mkF m 16 #[vI p0, vI p1, vI p2, vI p3, vI p4, vI p5, vI v1, vI (((p0.toUInt32 >>> ((3 : Int32) &&& 31).toUInt32).toInt32) &&& (31 : Int32)), .unset, .unset, .unset, .unset, .unset, .unset, .unset, .unset, .unset, .unset, .unset, .unset, .unset, .unset, .unset, .unset, .unset, .unset] []))
 generalize hv2 : (((p0.toUInt32 >>> ((3 : Int32) &&& 31).toUInt32).toInt32) &&& (31 : Int32)) = v2
 show qG p e below _ (s₁.setTop (mkF m 16 #[vI p0, vI p1, vI p2, vI p3, vI p4, vI p5, vI v1, vI v2, .unset, .unset, .unset, .unset, .unset, .unset, .unset, .unset, .unset, .unset, .unset, .unset, .unset, .unset, .unset, .unset, .unset, .unset] []))
 refine qb (fun _ k => XS.bipush X0.here hx rfl (hb hby at_16) k) ?_
 obtain ⟨_, T3, Lc3, X3, hQ3, st3⟩ := own_cS X0 hx hZ hown hml (rmvoL l Z A0 hw [] f_CS (97 : Int32) h0 n0 Z0 P_S_CS hn_CS (show ¬ ((255 : Int32) < (97 : Int32)) by decide)) (hwd 0 rfl) (hwd 1 rfl) (hwd 2 rfl) (hwd 3 rfl) (by decide) pd_0 e0 (g := (mkF m 18 #[vI p0, vI p1, vI p2, vI p3, vI p4, vI p5, vI v1, vI v2, .unset, .unset, .unset, .unset, .unset, .unset, .unset, .unset, .unset, .unset, .unset, .unset, .unset, .unset, .unset, .unset, .unset, .unset] [(.int 97)])) (rest := []) rfl rfl rfl rfl (hb hby at_18) rfl
 obtain ⟨b4, b5, b6, rfl, Nq3, Kq3, hp7, hp8, F9, F10, F11, F12, F13, hp14, hp15, F16, F17, hp18⟩ := hQ3
 have N3 := Fr.app N0 Nq3
 have K3 : Keep h0 T3.heap [] := (Keep.refl h0 []).trans Kq3 (all0)
 have Z3 := ql Z0 Kq3.1
 have sz_b4 := ql (Keep.refl h0 []).1 hp8
 have sz_b5 := ql (Keep.refl h0 []).1 hp15
 refine qb st3 ?_
 show qG p e below _ (T3.setTop (mkF m 21 #[vI p0, vI p1, vI p2, vI p3, vI p4, vI p5, vI v1, vI v2, .unset, .unset, .unset, .unset, .unset, .unset, .unset, .unset, .unset, .unset, .unset, .unset, .unset, .unset, .unset, .unset, .unset, .unset] [(.ref b4)]))
 refine qb (fun _ k => XS.astore X3.here hx rfl (hb hby at_21) rfl rfl (l' := #[vI p0, vI p1, vI p2, vI p3, vI p4, vI p5, vI v1, vI v2, vR b4, .unset, .unset, .unset, .unset, .unset, .unset, .unset, .unset, .unset, .unset, .unset, .unset, .unset, .unset, .unset, .unset, .unset]) rfl k) ?_
 show qG p e below _ (T3.setTop (mkF m 23 #[vI p0, vI p1, vI p2, vI p3, vI p4, vI p5, vI v1, vI v2, vR b4, .unset, .unset, .unset, .unset, .unset, .unset, .unset, .unset, .unset, .unset, .unset, .unset, .unset, .unset, .unset, .unset, .unset] []))
 refine qb (fun _ k => XS.bipush X3.here hx rfl (hb hby at_23) k) ?_
 have F19 := qk P_S_CS Kq3 all0
 obtain ⟨_, T20, Lc20, X20, hQ20, st20⟩ := own_cS X3 hx hZ hown hml (rmvoL l Z A0 hw [] f_CS (98 : Int32) T3.heap n0 Z3 F19 hn_CS (show ¬ ((255 : Int32) < (98 : Int32)) by decide)) (hwd 0 rfl) (hwd 1 rfl) (hwd 2 rfl) (hwd 3 rfl) (by decide) pd_0 rfl (g := (mkF m 25 #[vI p0, vI p1, vI p2, vI p3, vI p4, vI p5, vI v1, vI v2, vR b4, .unset, .unset, .unset, .unset, .unset, .unset, .unset, .unset, .unset, .unset, .unset, .unset, .unset, .unset, .unset, .unset, .unset] [(.int 98)])) (rest := []) rfl rfl rfl rfl (hb hby at_25) rfl
 obtain ⟨b21, b22, b23, rfl, Nq20, Kq20, hp24, hp25, F26, F27, F28, F29, F30, hp31, hp32, F33, F34, hp35⟩ := hQ20
 have N20 := Fr.app N3 Nq20
 have K20 : Keep h0 T20.heap [] := K3.trans Kq20 (all0)
 have Z20 := ql Z3 Kq20.1
 have sz_b21 := ql K3.1 hp25
 have sz_b22 := ql K3.1 hp32
 refine qb st20 ?_
 show qG p e below _ (T20.setTop (mkF m 28 #[vI p0, vI p1, vI p2, vI p3, vI p4, vI p5, vI v1, vI v2, vR b4, .unset, .unset, .unset, .unset, .unset, .unset, .unset, .unset, .unset, .unset, .unset, .unset, .unset, .unset, .unset, .unset, .unset] [(.ref b21)]))
 refine qb (fun _ k => XS.astore X20.here hx rfl (hb hby at_28) rfl rfl (l' := #[vI p0, vI p1, vI p2, vI p3, vI p4, vI p5, vI v1, vI v2, vR b4, vR b21, .unset, .unset, .unset, .unset, .unset, .unset, .unset, .unset, .unset, .unset, .unset, .unset, .unset, .unset, .unset, .unset]) rfl k) ?_
 show qG p e below _ (T20.setTop (mkF m 30 #[vI p0, vI p1, vI p2, vI p3, vI p4, vI p5, vI v1, vI v2, vR b4, vR b21, .unset, .unset, .unset, .unset, .unset, .unset, .unset, .unset, .unset, .unset, .unset, .unset, .unset, .unset, .unset, .unset] []))
 refine qb (fun _ k => XS.bipush X20.here hx rfl (hb hby at_30) k) ?_
 have F36 := qk F19 Kq20 all0
 obtain ⟨_, T37, Lc37, X37, hQ37, st37⟩ := own_cS X20 hx hZ hown hml (rmvoL l Z A0 hw [] f_CS (99 : Int32) T20.heap n0 Z20 F36 hn_CS (show ¬ ((255 : Int32) < (99 : Int32)) by decide)) (hwd 0 rfl) (hwd 1 rfl) (hwd 2 rfl) (hwd 3 rfl) (by decide) pd_0 rfl (g := (mkF m 32 #[vI p0, vI p1, vI p2, vI p3, vI p4, vI p5, vI v1, vI v2, vR b4, vR b21, .unset, .unset, .unset, .unset, .unset, .unset, .unset, .unset, .unset, .unset, .unset, .unset, .unset, .unset, .unset, .unset] [(.int 99)])) (rest := []) rfl rfl rfl rfl (hb hby at_32) rfl
 obtain ⟨b38, b39, b40, rfl, Nq37, Kq37, hp41, hp42, F43, F44, F45, F46, F47, hp48, hp49, F50, F51, hp52⟩ := hQ37
 have N37 := Fr.app N20 Nq37
 have K37 : Keep h0 T37.heap [] := K20.trans Kq37 (all0)
 have Z37 := ql Z20 Kq37.1
 have sz_b38 := ql K20.1 hp42
 have sz_b39 := ql K20.1 hp49
 refine qb st37 ?_
 show qG p e below _ (T37.setTop (mkF m 35 #[vI p0, vI p1, vI p2, vI p3, vI p4, vI p5, vI v1, vI v2, vR b4, vR b21, .unset, .unset, .unset, .unset, .unset, .unset, .unset, .unset, .unset, .unset, .unset, .unset, .unset, .unset, .unset, .unset] [(.ref b38)]))
 refine qb (fun _ k => XS.astore X37.here hx rfl (hb hby at_35) rfl rfl (l' := #[vI p0, vI p1, vI p2, vI p3, vI p4, vI p5, vI v1, vI v2, vR b4, vR b21, vR b38, .unset, .unset, .unset, .unset, .unset, .unset, .unset, .unset, .unset, .unset, .unset, .unset, .unset, .unset, .unset]) rfl k) ?_
 show qG p e below _ (T37.setTop (mkF m 37 #[vI p0, vI p1, vI p2, vI p3, vI p4, vI p5, vI v1, vI v2, vR b4, vR b21, vR b38, .unset, .unset, .unset, .unset, .unset, .unset, .unset, .unset, .unset, .unset, .unset, .unset, .unset, .unset, .unset] []))
 refine qb (fun _ k => XS.bipush X37.here hx rfl (hb hby at_37) k) ?_
 have F53 := qk F36 Kq37 all0
 obtain ⟨_, T54, Lc54, X54, hQ54, st54⟩ := own_cS X37 hx hZ hown hml (rmvoL l Z A0 hw [] f_CS (100 : Int32) T37.heap n0 Z37 F53 hn_CS (show ¬ ((255 : Int32) < (100 : Int32)) by decide)) (hwd 0 rfl) (hwd 1 rfl) (hwd 2 rfl) (hwd 3 rfl) (by decide) pd_0 rfl (g := (mkF m 39 #[vI p0, vI p1, vI p2, vI p3, vI p4, vI p5, vI v1, vI v2, vR b4, vR b21, vR b38, .unset, .unset, .unset, .unset, .unset, .unset, .unset, .unset, .unset, .unset, .unset, .unset, .unset, .unset, .unset] [(.int 100)])) (rest := []) rfl rfl rfl rfl (hb hby at_39) rfl
 obtain ⟨b55, b56, b57, rfl, Nq54, Kq54, hp58, hp59, F60, F61, F62, F63, F64, hp65, hp66, F67, F68, hp69⟩ := hQ54
 have N54 := Fr.app N37 Nq54
 have K54 : Keep h0 T54.heap [] := K37.trans Kq54 (all0)
 have Z54 := ql Z37 Kq54.1
 have sz_b55 := ql K37.1 hp59
 have sz_b56 := ql K37.1 hp66
 refine qb st54 ?_
 show qG p e below _ (T54.setTop (mkF m 42 #[vI p0, vI p1, vI p2, vI p3, vI p4, vI p5, vI v1, vI v2, vR b4, vR b21, vR b38, .unset, .unset, .unset, .unset, .unset, .unset, .unset, .unset, .unset, .unset, .unset, .unset, .unset, .unset, .unset] [(.ref b55)]))
 refine qb (fun _ k => XS.astore X54.here hx rfl (hb hby at_42) rfl rfl (l' := #[vI p0, vI p1, vI p2, vI p3, vI p4, vI p5, vI v1, vI v2, vR b4, vR b21, vR b38, vR b55, .unset, .unset, .unset, .unset, .unset, .unset, .unset, .unset, .unset, .unset, .unset, .unset, .unset, .unset]) rfl k) ?_
 show qG p e below _ (T54.setTop (mkF m 44 #[vI p0, vI p1, vI p2, vI p3, vI p4, vI p5, vI v1, vI v2, vR b4, vR b21, vR b38, vR b55, .unset, .unset, .unset, .unset, .unset, .unset, .unset, .unset, .unset, .unset, .unset, .unset, .unset, .unset] []))
 refine qb (fun _ k => XS.bipush X54.here hx rfl (hb hby at_44) k) ?_
 have F70 := qk F53 Kq54 all0
 obtain ⟨_, T71, Lc71, X71, hQ71, st71⟩ := own_cS X54 hx hZ hown hml (rmvoL l Z A0 hw [] f_CS (101 : Int32) T54.heap n0 Z54 F70 hn_CS (show ¬ ((255 : Int32) < (101 : Int32)) by decide)) (hwd 0 rfl) (hwd 1 rfl) (hwd 2 rfl) (hwd 3 rfl) (by decide) pd_0 rfl (g := (mkF m 46 #[vI p0, vI p1, vI p2, vI p3, vI p4, vI p5, vI v1, vI v2, vR b4, vR b21, vR b38, vR b55, .unset, .unset, .unset, .unset, .unset, .unset, .unset, .unset, .unset, .unset, .unset, .unset, .unset, .unset] [(.int 101)])) (rest := []) rfl rfl rfl rfl (hb hby at_46) rfl
 obtain ⟨b72, b73, b74, rfl, Nq71, Kq71, hp75, hp76, F77, F78, F79, F80, F81, hp82, hp83, F84, F85, hp86⟩ := hQ71
 have N71 := Fr.app N54 Nq71
 have K71 : Keep h0 T71.heap [] := K54.trans Kq71 (all0)
 have Z71 := ql Z54 Kq71.1
 have sz_b72 := ql K54.1 hp76
 have sz_b73 := ql K54.1 hp83
 refine qb st71 ?_
 show qG p e below _ (T71.setTop (mkF m 49 #[vI p0, vI p1, vI p2, vI p3, vI p4, vI p5, vI v1, vI v2, vR b4, vR b21, vR b38, vR b55, .unset, .unset, .unset, .unset, .unset, .unset, .unset, .unset, .unset, .unset, .unset, .unset, .unset, .unset] [(.ref b72)]))
 refine qb (fun _ k => XS.astore X71.here hx rfl (hb hby at_49) rfl rfl (l' := #[vI p0, vI p1, vI p2, vI p3, vI p4, vI p5, vI v1, vI v2, vR b4, vR b21, vR b38, vR b55, vR b72, .unset, .unset, .unset, .unset, .unset, .unset, .unset, .unset, .unset, .unset, .unset, .unset, .unset]) rfl k) ?_
 show qG p e below _ (T71.setTop (mkF m 51 #[vI p0, vI p1, vI p2, vI p3, vI p4, vI p5, vI v1, vI v2, vR b4, vR b21, vR b38, vR b55, vR b72, .unset, .unset, .unset, .unset, .unset, .unset, .unset, .unset, .unset, .unset, .unset, .unset, .unset] []))
 have F87 := ((((F9.keep Kq20).keep Kq37).keep Kq54).keep Kq71)
 have F88 := ((((F11.keep Kq20 nin0).keep Kq37 nin0).keep Kq54 nin0).keep Kq71 nin0)
 have F89 := ((((F10.keep Kq20 nin0).keep Kq37 nin0).keep Kq54 nin0).keep Kq71 nin0)
 have F90 := ((((F12.keep Kq20 nin0).keep Kq37 nin0).keep Kq54 nin0).keep Kq71 nin0)
 have F91 := ((((F13.keep Kq20 nin0).keep Kq37 nin0).keep Kq54 nin0).keep Kq71 nin0)
 have F92 := ((((F16.keep Kq20).keep Kq37).keep Kq54).keep Kq71)
 have F93 := ((((F17.keep Kq20 nin0).keep Kq37 nin0).keep Kq54 nin0).keep Kq71 nin0)
 have Kx0 : own_Kx Z T71.heap b4 0 := ⟨_, _, (qu (fun _ => (0 : Int32)) 0 (97 : Int32)), _, F87, F88, F89, F90, F91, F92, F93, Or.inl rfl, by decide⟩
 have F94 := (((F26.keep Kq37).keep Kq54).keep Kq71)
 have F95 := (((F28.keep Kq37 nin0).keep Kq54 nin0).keep Kq71 nin0)
 have F96 := (((F27.keep Kq37 nin0).keep Kq54 nin0).keep Kq71 nin0)
 have F97 := (((F29.keep Kq37 nin0).keep Kq54 nin0).keep Kq71 nin0)
 have F98 := (((F30.keep Kq37 nin0).keep Kq54 nin0).keep Kq71 nin0)
 have F99 := (((F33.keep Kq37).keep Kq54).keep Kq71)
 have F100 := (((F34.keep Kq37 nin0).keep Kq54 nin0).keep Kq71 nin0)
 have Kx1 : own_Kx Z T71.heap b21 1 := ⟨_, _, (qu (fun _ => (0 : Int32)) 0 (98 : Int32)), _, F94, F95, F96, F97, F98, F99, F100, Or.inl rfl, by decide⟩
 have F101 := ((F43.keep Kq54).keep Kq71)
 have F102 := ((F45.keep Kq54 nin0).keep Kq71 nin0)
 have F103 := ((F44.keep Kq54 nin0).keep Kq71 nin0)
 have F104 := ((F46.keep Kq54 nin0).keep Kq71 nin0)
 have F105 := ((F47.keep Kq54 nin0).keep Kq71 nin0)
 have F106 := ((F50.keep Kq54).keep Kq71)
 have F107 := ((F51.keep Kq54 nin0).keep Kq71 nin0)
 have Kx2 : own_Kx Z T71.heap b38 2 := ⟨_, _, (qu (fun _ => (0 : Int32)) 0 (99 : Int32)), _, F101, F102, F103, F104, F105, F106, F107, Or.inl rfl, by decide⟩
 have F108 := (F60.keep Kq71)
 have F109 := (F62.keep Kq71 nin0)
 have F110 := (F61.keep Kq71 nin0)
 have F111 := (F63.keep Kq71 nin0)
 have F112 := (F64.keep Kq71 nin0)
 have F113 := (F67.keep Kq71)
 have F114 := (F68.keep Kq71 nin0)
 have Kx3 : own_Kx Z T71.heap b55 3 := ⟨_, _, (qu (fun _ => (0 : Int32)) 0 (100 : Int32)), _, F108, F109, F110, F111, F112, F113, F114, Or.inl rfl, by decide⟩
 have Kx4 : own_Kx Z T71.heap b72 4 := ⟨_, _, (qu (fun _ => (0 : Int32)) 0 (101 : Int32)), _, F77, F79, F78, F80, F81, F84, F85, Or.inl rfl, by decide⟩
 have Ks0 : own_Ks Z T71.heap (own_K b4 b21 b38 b55 b72) := ⟨(own_Kinj (qn F9.lt hp25) (qn ((F9.keep Kq20)).lt hp42) (qn (((F9.keep Kq20).keep Kq37)).lt hp59) (qn ((((F9.keep Kq20).keep Kq37).keep Kq54)).lt hp76) (qn F26.lt hp42) (qn ((F26.keep Kq37)).lt hp59) (qn (((F26.keep Kq37).keep Kq54)).lt hp76) (qn F43.lt hp59) (qn ((F43.keep Kq54)).lt hp76) (qn F60.lt hp76)), fun i hi => own_c5 (P := fun i => own_Kx Z T71.heap ((own_K b4 b21 b38 b55 b72) i) i) Kx0 Kx1 Kx2 Kx3 Kx4 hi⟩
 obtain ⟨T115, h115, X115, e115, E115, A115, D115, -, st115⟩ := newO X71 hx hZ hown (hwd 26 rfl) (hwd 27 rfl) (hwd 28 rfl) rfl (g := (mkF m 51 #[vI p0, vI p1, vI p2, vI p3, vI p4, vI p5, vI v1, vI v2, vR b4, vR b21, vR b38, vR b55, vR b72, .unset, .unset, .unset, .unset, .unset, .unset, .unset, .unset, .unset, .unset, .unset, .unset, .unset] [])) rfl (hb hby at_51) (by decide) (by decide)
 obtain ⟨b115, g115⟩ : ∃ z, z = T71.heap.size := ⟨_, rfl⟩
 have ge_b115 : n0 ≤ b115 := ql Z71 (Nat.le_of_eq g115.symm)
 have sz_b115 := ql K71.1 (Nat.le_of_eq g115.symm)
 have K115 : Keep h0 h115 [] := K71.ext E115
 have Z115 := ql Z71 E115.1
 rw [← g115] at A115 D115 st115
 have F_documentId_b115 : Fld Z h115 b115 cHT "documentId" "Ljava/lang/String;" .null := D115 (Or.inr (hwd 39 rfl)) (ty := (.object "java/lang/String")) (by decide)
 have F_score_b115 : Fld Z h115 b115 cHT "score" "D" (.double (0 : UInt64)) := D115 (Or.inr (hwd 41 rfl)) (ty := .double) (by decide)
 refine qb st115 ?_
 show qG p e below _ (T115.setTop (mkF m 54 #[vI p0, vI p1, vI p2, vI p3, vI p4, vI p5, vI v1, vI v2, vR b4, vR b21, vR b38, vR b55, vR b72, .unset, .unset, .unset, .unset, .unset, .unset, .unset, .unset, .unset, .unset, .unset, .unset, .unset] [(.ref b115)]))
 refine qb (fun _ k => XS.dup X115.here hx rfl (hb hby at_54) rfl rfl k) ?_
 refine qb (fun _ k => XS.aload X115.here hx rfl (hb hby at_55) rfl rfl k) ?_
 refine qb (fun _ k => XS.dconst0 X115.here hx rfl (hb hby at_57) rfl k) ?_
 show qG p e below _ (T115.setTop (mkF m 58 #[vI p0, vI p1, vI p2, vI p3, vI p4, vI p5, vI v1, vI v2, vR b4, vR b21, vR b38, vR b55, vR b72, .unset, .unset, .unset, .unset, .unset, .unset, .unset, .unset, .unset, .unset, .unset, .unset, .unset] [(.double FP.dconst0), (.ref b4), (.ref b115), (.ref b115)]))
 obtain ⟨_, T116, Lc116, X116, hQ116, st116⟩ := own_cI X115 hx hZ hown hml (rmiHit l Z A0 hw [] b115 b4 FP.dconst0 (.null) (0 : UInt64) h115 n0 Z115 A115 F_documentId_b115 ge_b115 F_score_b115) (hwd 29 rfl) (hwd 30 rfl) (hwd 28 rfl) (hwd 31 rfl) (by decide) pd_29 e115 rfl (g := (mkF m 58 #[vI p0, vI p1, vI p2, vI p3, vI p4, vI p5, vI v1, vI v2, vR b4, vR b21, vR b38, vR b55, vR b72, .unset, .unset, .unset, .unset, .unset, .unset, .unset, .unset, .unset, .unset, .unset, .unset, .unset] [(.double FP.dconst0), (.ref b4), (.ref b115), (.ref b115)])) (rest := [(.ref b115)]) rfl rfl rfl rfl (hb hby at_58) rfl
 obtain ⟨rfl, Nq116, Kq116, F117, F118, F119⟩ := hQ116
 have N116 := Fr.app N71 Nq116
 have K116 : Keep h0 T116.heap [] := K115.trans Kq116 ((allS (Or.inr sz_b115) all0))
 have Z116 := ql Z115 Kq116.1
 refine qb st116 ?_
 show qG p e below _ (T116.setTop (mkF m 61 #[vI p0, vI p1, vI p2, vI p3, vI p4, vI p5, vI v1, vI v2, vR b4, vR b21, vR b38, vR b55, vR b72, .unset, .unset, .unset, .unset, .unset, .unset, .unset, .unset, .unset, .unset, .unset, .unset, .unset] [(.ref b115)]))
 refine qb (fun _ k => XS.astore X116.here hx rfl (hb hby at_61) rfl rfl (l' := #[vI p0, vI p1, vI p2, vI p3, vI p4, vI p5, vI v1, vI v2, vR b4, vR b21, vR b38, vR b55, vR b72, vR b115, .unset, .unset, .unset, .unset, .unset, .unset, .unset, .unset, .unset, .unset, .unset, .unset]) rfl k) ?_
 show qG p e below _ (T116.setTop (mkF m 63 #[vI p0, vI p1, vI p2, vI p3, vI p4, vI p5, vI v1, vI v2, vR b4, vR b21, vR b38, vR b55, vR b72, vR b115, .unset, .unset, .unset, .unset, .unset, .unset, .unset, .unset, .unset, .unset, .unset, .unset] []))
 obtain ⟨T120, h120, X120, e120, E120, A120, D120, -, st120⟩ := newO X116 hx hZ hown (hwd 26 rfl) (hwd 27 rfl) (hwd 28 rfl) rfl (g := (mkF m 63 #[vI p0, vI p1, vI p2, vI p3, vI p4, vI p5, vI v1, vI v2, vR b4, vR b21, vR b38, vR b55, vR b72, vR b115, .unset, .unset, .unset, .unset, .unset, .unset, .unset, .unset, .unset, .unset, .unset, .unset] [])) rfl (hb hby at_63) (by decide) (by decide)
 obtain ⟨b120, g120⟩ : ∃ z, z = T116.heap.size := ⟨_, rfl⟩
 have ge_b120 : n0 ≤ b120 := ql Z116 (Nat.le_of_eq g120.symm)
 have sz_b120 := ql K116.1 (Nat.le_of_eq g120.symm)
 have K120 : Keep h0 h120 [] := K116.ext E120
 have Z120 := ql Z116 E120.1
 rw [← g120] at A120 D120 st120
 have F_documentId_b120 : Fld Z h120 b120 cHT "documentId" "Ljava/lang/String;" .null := D120 (Or.inr (hwd 39 rfl)) (ty := (.object "java/lang/String")) (by decide)
 have F_score_b120 : Fld Z h120 b120 cHT "score" "D" (.double (0 : UInt64)) := D120 (Or.inr (hwd 41 rfl)) (ty := .double) (by decide)
 refine qb st120 ?_
 show qG p e below _ (T120.setTop (mkF m 66 #[vI p0, vI p1, vI p2, vI p3, vI p4, vI p5, vI v1, vI v2, vR b4, vR b21, vR b38, vR b55, vR b72, vR b115, .unset, .unset, .unset, .unset, .unset, .unset, .unset, .unset, .unset, .unset, .unset, .unset] [(.ref b120)]))
 refine qb (fun _ k => XS.dup X120.here hx rfl (hb hby at_66) rfl rfl k) ?_
 refine qb (fun _ k => XS.aload X120.here hx rfl (hb hby at_67) rfl rfl k) ?_
 refine qb (fun _ k => XS.dconst0 X120.here hx rfl (hb hby at_69) rfl k) ?_
 show qG p e below _ (T120.setTop (mkF m 70 #[vI p0, vI p1, vI p2, vI p3, vI p4, vI p5, vI v1, vI v2, vR b4, vR b21, vR b38, vR b55, vR b72, vR b115, .unset, .unset, .unset, .unset, .unset, .unset, .unset, .unset, .unset, .unset, .unset, .unset] [(.double FP.dconst0), (.ref b21), (.ref b120), (.ref b120)]))
 obtain ⟨_, T121, Lc121, X121, hQ121, st121⟩ := own_cI X120 hx hZ hown hml (rmiHit l Z A0 hw [] b120 b21 FP.dconst0 (.null) (0 : UInt64) h120 n0 Z120 A120 F_documentId_b120 ge_b120 F_score_b120) (hwd 29 rfl) (hwd 30 rfl) (hwd 28 rfl) (hwd 31 rfl) (by decide) pd_29 e120 rfl (g := (mkF m 70 #[vI p0, vI p1, vI p2, vI p3, vI p4, vI p5, vI v1, vI v2, vR b4, vR b21, vR b38, vR b55, vR b72, vR b115, .unset, .unset, .unset, .unset, .unset, .unset, .unset, .unset, .unset, .unset, .unset, .unset] [(.double FP.dconst0), (.ref b21), (.ref b120), (.ref b120)])) (rest := [(.ref b120)]) rfl rfl rfl rfl (hb hby at_70) rfl
 obtain ⟨rfl, Nq121, Kq121, F122, F123, F124⟩ := hQ121
 have N121 := Fr.app N116 Nq121
 have K121 : Keep h0 T121.heap [] := K120.trans Kq121 ((allS (Or.inr sz_b120) all0))
 have Z121 := ql Z120 Kq121.1
 refine qb st121 ?_
 show qG p e below _ (T121.setTop (mkF m 73 #[vI p0, vI p1, vI p2, vI p3, vI p4, vI p5, vI v1, vI v2, vR b4, vR b21, vR b38, vR b55, vR b72, vR b115, .unset, .unset, .unset, .unset, .unset, .unset, .unset, .unset, .unset, .unset, .unset, .unset] [(.ref b120)]))
 refine qb (fun _ k => XS.astore X121.here hx rfl (hb hby at_73) rfl rfl (l' := #[vI p0, vI p1, vI p2, vI p3, vI p4, vI p5, vI v1, vI v2, vR b4, vR b21, vR b38, vR b55, vR b72, vR b115, vR b120, .unset, .unset, .unset, .unset, .unset, .unset, .unset, .unset, .unset, .unset, .unset]) rfl k) ?_
 show qG p e below _ (T121.setTop (mkF m 75 #[vI p0, vI p1, vI p2, vI p3, vI p4, vI p5, vI v1, vI v2, vR b4, vR b21, vR b38, vR b55, vR b72, vR b115, vR b120, .unset, .unset, .unset, .unset, .unset, .unset, .unset, .unset, .unset, .unset, .unset] []))
 obtain ⟨T125, h125, X125, e125, E125, A125, D125, -, st125⟩ := newO X121 hx hZ hown (hwd 26 rfl) (hwd 27 rfl) (hwd 28 rfl) rfl (g := (mkF m 75 #[vI p0, vI p1, vI p2, vI p3, vI p4, vI p5, vI v1, vI v2, vR b4, vR b21, vR b38, vR b55, vR b72, vR b115, vR b120, .unset, .unset, .unset, .unset, .unset, .unset, .unset, .unset, .unset, .unset, .unset] [])) rfl (hb hby at_75) (by decide) (by decide)
 obtain ⟨b125, g125⟩ : ∃ z, z = T121.heap.size := ⟨_, rfl⟩
 have ge_b125 : n0 ≤ b125 := ql Z121 (Nat.le_of_eq g125.symm)
 have sz_b125 := ql K121.1 (Nat.le_of_eq g125.symm)
 have K125 : Keep h0 h125 [] := K121.ext E125
 have Z125 := ql Z121 E125.1
 rw [← g125] at A125 D125 st125
 have F_documentId_b125 : Fld Z h125 b125 cHT "documentId" "Ljava/lang/String;" .null := D125 (Or.inr (hwd 39 rfl)) (ty := (.object "java/lang/String")) (by decide)
 have F_score_b125 : Fld Z h125 b125 cHT "score" "D" (.double (0 : UInt64)) := D125 (Or.inr (hwd 41 rfl)) (ty := .double) (by decide)
 refine qb st125 ?_
 show qG p e below _ (T125.setTop (mkF m 78 #[vI p0, vI p1, vI p2, vI p3, vI p4, vI p5, vI v1, vI v2, vR b4, vR b21, vR b38, vR b55, vR b72, vR b115, vR b120, .unset, .unset, .unset, .unset, .unset, .unset, .unset, .unset, .unset, .unset, .unset] [(.ref b125)]))
 refine qb (fun _ k => XS.dup X125.here hx rfl (hb hby at_78) rfl rfl k) ?_
 refine qb (fun _ k => XS.aload X125.here hx rfl (hb hby at_79) rfl rfl k) ?_
 refine qb (fun _ k => XS.dconst0 X125.here hx rfl (hb hby at_81) rfl k) ?_
 show qG p e below _ (T125.setTop (mkF m 82 #[vI p0, vI p1, vI p2, vI p3, vI p4, vI p5, vI v1, vI v2, vR b4, vR b21, vR b38, vR b55, vR b72, vR b115, vR b120, .unset, .unset, .unset, .unset, .unset, .unset, .unset, .unset, .unset, .unset, .unset] [(.double FP.dconst0), (.ref b38), (.ref b125), (.ref b125)]))
 obtain ⟨_, T126, Lc126, X126, hQ126, st126⟩ := own_cI X125 hx hZ hown hml (rmiHit l Z A0 hw [] b125 b38 FP.dconst0 (.null) (0 : UInt64) h125 n0 Z125 A125 F_documentId_b125 ge_b125 F_score_b125) (hwd 29 rfl) (hwd 30 rfl) (hwd 28 rfl) (hwd 31 rfl) (by decide) pd_29 e125 rfl (g := (mkF m 82 #[vI p0, vI p1, vI p2, vI p3, vI p4, vI p5, vI v1, vI v2, vR b4, vR b21, vR b38, vR b55, vR b72, vR b115, vR b120, .unset, .unset, .unset, .unset, .unset, .unset, .unset, .unset, .unset, .unset, .unset] [(.double FP.dconst0), (.ref b38), (.ref b125), (.ref b125)])) (rest := [(.ref b125)]) rfl rfl rfl rfl (hb hby at_82) rfl
 obtain ⟨rfl, Nq126, Kq126, F127, F128, F129⟩ := hQ126
 have N126 := Fr.app N121 Nq126
 have K126 : Keep h0 T126.heap [] := K125.trans Kq126 ((allS (Or.inr sz_b125) all0))
 have Z126 := ql Z125 Kq126.1
 refine qb st126 ?_
 show qG p e below _ (T126.setTop (mkF m 85 #[vI p0, vI p1, vI p2, vI p3, vI p4, vI p5, vI v1, vI v2, vR b4, vR b21, vR b38, vR b55, vR b72, vR b115, vR b120, .unset, .unset, .unset, .unset, .unset, .unset, .unset, .unset, .unset, .unset, .unset] [(.ref b125)]))
 refine qb (fun _ k => XS.astore X126.here hx rfl (hb hby at_85) rfl rfl (l' := #[vI p0, vI p1, vI p2, vI p3, vI p4, vI p5, vI v1, vI v2, vR b4, vR b21, vR b38, vR b55, vR b72, vR b115, vR b120, vR b125, .unset, .unset, .unset, .unset, .unset, .unset, .unset, .unset, .unset, .unset]) rfl k) ?_
 show qG p e below _ (T126.setTop (mkF m 87 #[vI p0, vI p1, vI p2, vI p3, vI p4, vI p5, vI v1, vI v2, vR b4, vR b21, vR b38, vR b55, vR b72, vR b115, vR b120, vR b125, .unset, .unset, .unset, .unset, .unset, .unset, .unset, .unset, .unset, .unset] []))
 obtain ⟨T130, h130, X130, e130, E130, A130, D130, -, st130⟩ := newO X126 hx hZ hown (hwd 26 rfl) (hwd 27 rfl) (hwd 28 rfl) rfl (g := (mkF m 87 #[vI p0, vI p1, vI p2, vI p3, vI p4, vI p5, vI v1, vI v2, vR b4, vR b21, vR b38, vR b55, vR b72, vR b115, vR b120, vR b125, .unset, .unset, .unset, .unset, .unset, .unset, .unset, .unset, .unset, .unset] [])) rfl (hb hby at_87) (by decide) (by decide)
 obtain ⟨b130, g130⟩ : ∃ z, z = T126.heap.size := ⟨_, rfl⟩
 have ge_b130 : n0 ≤ b130 := ql Z126 (Nat.le_of_eq g130.symm)
 have sz_b130 := ql K126.1 (Nat.le_of_eq g130.symm)
 have K130 : Keep h0 h130 [] := K126.ext E130
 have Z130 := ql Z126 E130.1
 rw [← g130] at A130 D130 st130
 have F_documentId_b130 : Fld Z h130 b130 cHT "documentId" "Ljava/lang/String;" .null := D130 (Or.inr (hwd 39 rfl)) (ty := (.object "java/lang/String")) (by decide)
 have F_score_b130 : Fld Z h130 b130 cHT "score" "D" (.double (0 : UInt64)) := D130 (Or.inr (hwd 41 rfl)) (ty := .double) (by decide)
 refine qb st130 ?_
 show qG p e below _ (T130.setTop (mkF m 90 #[vI p0, vI p1, vI p2, vI p3, vI p4, vI p5, vI v1, vI v2, vR b4, vR b21, vR b38, vR b55, vR b72, vR b115, vR b120, vR b125, .unset, .unset, .unset, .unset, .unset, .unset, .unset, .unset, .unset, .unset] [(.ref b130)]))
 refine qb (fun _ k => XS.dup X130.here hx rfl (hb hby at_90) rfl rfl k) ?_
 refine qb (fun _ k => XS.aload X130.here hx rfl (hb hby at_91) rfl rfl k) ?_
 refine qb (fun _ k => XS.dconst0 X130.here hx rfl (hb hby at_93) rfl k) ?_
 show qG p e below _ (T130.setTop (mkF m 94 #[vI p0, vI p1, vI p2, vI p3, vI p4, vI p5, vI v1, vI v2, vR b4, vR b21, vR b38, vR b55, vR b72, vR b115, vR b120, vR b125, .unset, .unset, .unset, .unset, .unset, .unset, .unset, .unset, .unset, .unset] [(.double FP.dconst0), (.ref b55), (.ref b130), (.ref b130)]))
 obtain ⟨_, T131, Lc131, X131, hQ131, st131⟩ := own_cI X130 hx hZ hown hml (rmiHit l Z A0 hw [] b130 b55 FP.dconst0 (.null) (0 : UInt64) h130 n0 Z130 A130 F_documentId_b130 ge_b130 F_score_b130) (hwd 29 rfl) (hwd 30 rfl) (hwd 28 rfl) (hwd 31 rfl) (by decide) pd_29 e130 rfl (g := (mkF m 94 #[vI p0, vI p1, vI p2, vI p3, vI p4, vI p5, vI v1, vI v2, vR b4, vR b21, vR b38, vR b55, vR b72, vR b115, vR b120, vR b125, .unset, .unset, .unset, .unset, .unset, .unset, .unset, .unset, .unset, .unset] [(.double FP.dconst0), (.ref b55), (.ref b130), (.ref b130)])) (rest := [(.ref b130)]) rfl rfl rfl rfl (hb hby at_94) rfl
 obtain ⟨rfl, Nq131, Kq131, F132, F133, F134⟩ := hQ131
 have N131 := Fr.app N126 Nq131
 have K131 : Keep h0 T131.heap [] := K130.trans Kq131 ((allS (Or.inr sz_b130) all0))
 have Z131 := ql Z130 Kq131.1
 refine qb st131 ?_
 show qG p e below _ (T131.setTop (mkF m 97 #[vI p0, vI p1, vI p2, vI p3, vI p4, vI p5, vI v1, vI v2, vR b4, vR b21, vR b38, vR b55, vR b72, vR b115, vR b120, vR b125, .unset, .unset, .unset, .unset, .unset, .unset, .unset, .unset, .unset, .unset] [(.ref b130)]))
 refine qb (fun _ k => XS.astore X131.here hx rfl (hb hby at_97) rfl rfl (l' := #[vI p0, vI p1, vI p2, vI p3, vI p4, vI p5, vI v1, vI v2, vR b4, vR b21, vR b38, vR b55, vR b72, vR b115, vR b120, vR b125, vR b130, .unset, .unset, .unset, .unset, .unset, .unset, .unset, .unset, .unset]) rfl k) ?_
 show qG p e below _ (T131.setTop (mkF m 99 #[vI p0, vI p1, vI p2, vI p3, vI p4, vI p5, vI v1, vI v2, vR b4, vR b21, vR b38, vR b55, vR b72, vR b115, vR b120, vR b125, vR b130, .unset, .unset, .unset, .unset, .unset, .unset, .unset, .unset, .unset] []))
 obtain ⟨T135, h135, X135, e135, E135, A135, D135, -, st135⟩ := newO X131 hx hZ hown (hwd 42 rfl) (hwd 43 rfl) (hwd 44 rfl) rfl (g := (mkF m 99 #[vI p0, vI p1, vI p2, vI p3, vI p4, vI p5, vI v1, vI v2, vR b4, vR b21, vR b38, vR b55, vR b72, vR b115, vR b120, vR b125, vR b130, .unset, .unset, .unset, .unset, .unset, .unset, .unset, .unset, .unset] [])) rfl (hb hby at_99) (by decide) (by decide)
 obtain ⟨b135, g135⟩ : ∃ z, z = T131.heap.size := ⟨_, rfl⟩
 have ge_b135 : n0 ≤ b135 := ql Z131 (Nat.le_of_eq g135.symm)
 have sz_b135 := ql K131.1 (Nat.le_of_eq g135.symm)
 have K135 : Keep h0 h135 [] := K131.ext E135
 have Z135 := ql Z131 E135.1
 rw [← g135] at A135 D135 st135
 have F_modCount_b135 : Fld Z h135 b135 "java/util/AbstractList" "modCount" "I" (.int 0) := D135 (Or.inl (hwd 62 rfl)) (ty := .int) (by decide)
 have F_elementData_b135 : Fld Z h135 b135 cAL "elementData" "[Ljava/lang/Object;" .null := D135 (Or.inl (hwd 65 rfl)) (ty := (.array (.object "java/lang/Object"))) (by decide)
 have F_size_b135 : Fld Z h135 b135 cAL "size" "I" (.int 0) := D135 (Or.inl (hwd 103 rfl)) (ty := .int) (by decide)
 refine qb st135 ?_
 show qG p e below _ (T135.setTop (mkF m 102 #[vI p0, vI p1, vI p2, vI p3, vI p4, vI p5, vI v1, vI v2, vR b4, vR b21, vR b38, vR b55, vR b72, vR b115, vR b120, vR b125, vR b130, .unset, .unset, .unset, .unset, .unset, .unset, .unset, .unset, .unset] [(.ref b135)]))
 refine qb (fun _ k => XS.dup X135.here hx rfl (hb hby at_102) rfl rfl k) ?_
 have F136 := ((qk ((qk ((qk ((qk ((qk (qk (qk (qk (qk P_S_DE Kq3 all0) Kq20 all0) Kq37 all0) Kq54 all0) Kq71 all0).ext E115) Kq116 (allS (qx A115) all0)).ext E120) Kq121 (allS (qx A120) all0)).ext E125) Kq126 (allS (qx A125) all0)).ext E130) Kq131 (allS (qx A130) all0)).ext E135)
 obtain ⟨_, T137, Lc137, X137, hQ137, st137⟩ := own_cI X135 hx hZ hown hml (rmiArr l Z A0 hw [] f_DE b135 (0 : Int32) (.null) (0 : Int32) h135 n0 Z135 A135 F136 F_modCount_b135 F_elementData_b135 F_size_b135 ge_b135) (hwd 45 rfl) (hwd 46 rfl) (hwd 44 rfl) (hwd 47 rfl) (by decide) pd_19 e135 rfl (g := (mkF m 103 #[vI p0, vI p1, vI p2, vI p3, vI p4, vI p5, vI v1, vI v2, vR b4, vR b21, vR b38, vR b55, vR b72, vR b115, vR b120, vR b125, vR b130, .unset, .unset, .unset, .unset, .unset, .unset, .unset, .unset, .unset] [(.ref b135), (.ref b135)])) (rest := [(.ref b135)]) rfl rfl rfl rfl (hb hby at_103) rfl
 obtain ⟨rfl, Nq137, Kq137, F138, F139, F140, F141⟩ := hQ137
 have N137 := Fr.app N131 Nq137
 have K137 : Keep h0 T137.heap [] := K135.trans Kq137 ((allS (Or.inr sz_b135) all0))
 have Z137 := ql Z135 Kq137.1
 refine qb st137 ?_
 show qG p e below _ (T137.setTop (mkF m 106 #[vI p0, vI p1, vI p2, vI p3, vI p4, vI p5, vI v1, vI v2, vR b4, vR b21, vR b38, vR b55, vR b72, vR b115, vR b120, vR b125, vR b130, .unset, .unset, .unset, .unset, .unset, .unset, .unset, .unset, .unset] [(.ref b135)]))
 refine qb (fun _ k => XS.astore X137.here hx rfl (hb hby at_106) rfl rfl (l' := #[vI p0, vI p1, vI p2, vI p3, vI p4, vI p5, vI v1, vI v2, vR b4, vR b21, vR b38, vR b55, vR b72, vR b115, vR b120, vR b125, vR b130, vR b135, .unset, .unset, .unset, .unset, .unset, .unset, .unset, .unset]) rfl k) ?_
 show qG p e below _ (T137.setTop (mkF m 108 #[vI p0, vI p1, vI p2, vI p3, vI p4, vI p5, vI v1, vI v2, vR b4, vR b21, vR b38, vR b55, vR b72, vR b115, vR b120, vR b125, vR b130, vR b135, .unset, .unset, .unset, .unset, .unset, .unset, .unset, .unset] []))
 refine qb (fun _ k => XS.iload X137.here hx rfl (hb hby at_108) rfl k) ?_
 refine qb (fun _ k => XS.iconst X137.here hx rfl (hb hby at_110) k) ?_
 have J256 : ∀ (T257 : State) (L258 : List Loc) (h262 : Heap), Stand p l e room_1 s m #[(.int p0), (.int p1), (.int p2), (.int p3), (.int p4), (.int p5)] below meth c T257 L258 16 46 → T257.heap = h262 → Fr n0 L258 → Keep h0 h262 [] → n0 ≤ h262.size → Exa Z h262 b135 "java/util/ArrayList" → Exa Z h262 b21 "java/lang/String" → Exa Z h262 b38 "java/lang/String" → Exa Z h262 b4 "java/lang/String" → Exa Z h262 b55 "java/lang/String" → Exa Z h262 b72 "java/lang/String" → Exa Z h262 f_DE "[Ljava/lang/Object;" → Sta Z h262 cST "COMPACT_STRINGS" "Z" (.int f_CS) → Sta Z h262 "java/lang/Integer$IntegerCache" "high" "I" (.int 127) → Sta Z h262 "java/lang/Integer$IntegerCache" "cache" "[Ljava/lang/Integer;" (.ref f_CA) → own_Ca Z h262 f_CA k_CA fn_CA → own_Ks Z h262 (own_K b4 b21 b38 b55 b72) → own_Al Z h262 b135 v1 (own_K b4 b21 b38 b55 b72) → b21 ≠ b38 → b21 ≠ b4 → b38 ≠ b4 → b21 ≠ b55 → b38 ≠ b55 → b4 ≠ b55 → b21 ≠ b72 → b38 ≠ b72 → b4 ≠ b72 → b55 ≠ b72 → (True) → qG p e below (own_Fin s 80 320 (Q0 Z f_CS f_DE k_f_DE fn_f_DE f_CA k_CA fn_CA p0 p1 p2 p3 p4 p5 h0 n0)) (T257.setTop (mkF m 164 #[vI p0, vI p1, vI p2, vI p3, vI p4, vI p5, vI v1, vI v2, vR b4, vR b21, vR b38, vR b55, vR b72, vR b115, vR b120, vR b125, vR b130, vR b135, .unset, .unset, .unset, .unset, .unset, .unset, .unset, .unset] [])) := by
  intro T257 L258 h262 X259 e260 N261 K263 Z264 F265 F266 F267 F268 F269 F270 F271 F272 F273 F274 F275 F276 F277 ne278 ne279 ne280 ne281 ne282 ne283 ne284 ne285 ne286 ne287 hj288
  obtain ⟨T289, h289, X289, e289, E289, A289, D289, -, st289⟩ := newO X259 hx hZ hown (hwd 66 rfl) (hwd 67 rfl) (hwd 68 rfl) e260 (g := (mkF m 164 #[vI p0, vI p1, vI p2, vI p3, vI p4, vI p5, vI v1, vI v2, vR b4, vR b21, vR b38, vR b55, vR b72, vR b115, vR b120, vR b125, vR b130, vR b135, .unset, .unset, .unset, .unset, .unset, .unset, .unset, .unset] [])) rfl (hb hby at_164) (by decide) (by decide)
  obtain ⟨b289, g289⟩ : ∃ z, z = h262.size := ⟨_, rfl⟩
  have ge_b289 : n0 ≤ b289 := ql Z264 (Nat.le_of_eq g289.symm)
  have sz_b289 := ql K263.1 (Nat.le_of_eq g289.symm)
  have K289 : Keep h0 h289 [] := K263.ext E289
  have Z289 := ql Z264 E289.1
  rw [← g289] at A289 D289 st289
  have F_loadFactor_b289 : Fld Z h289 b289 cHM "loadFactor" "F" (.float (0 : UInt32)) := D289 (Or.inr (hwd 81 rfl)) (ty := .float) (by decide)
  have F_size_b289 : Fld Z h289 b289 cHM "size" "I" (.int 0) := D289 (Or.inl (hwd 117 rfl)) (ty := .int) (by decide)
  have F_values_b289 : Fld Z h289 b289 cAM "values" "Ljava/util/Collection;" .null := D289 (Or.inl (hwd 128 rfl)) (ty := (.object "java/util/Collection")) (by decide)
  have F_modCount_b289 : Fld Z h289 b289 cHM "modCount" "I" (.int 0) := D289 (Or.inl (hwd 166 rfl)) (ty := .int) (by decide)
  have F_table_b289 : Fld Z h289 b289 cHM "table" "[Ljava/util/HashMap$Node;" .null := D289 (Or.inl (hwd 170 rfl)) (ty := (.array (.object "java/util/HashMap$Node"))) (by decide)
  have F_threshold_b289 : Fld Z h289 b289 cHM "threshold" "I" (.int 0) := D289 (Or.inl (hwd 348 rfl)) (ty := .int) (by decide)
  refine qb st289 ?_
  show qG p e below _ (T289.setTop (mkF m 167 #[vI p0, vI p1, vI p2, vI p3, vI p4, vI p5, vI v1, vI v2, vR b4, vR b21, vR b38, vR b55, vR b72, vR b115, vR b120, vR b125, vR b130, vR b135, .unset, .unset, .unset, .unset, .unset, .unset, .unset, .unset] [(.ref b289)]))
  refine qb (fun _ k => XS.dup X289.here hx rfl (hb hby at_167) rfl rfl k) ?_
  obtain ⟨_, T290, Lc290, X290, hQ290, st290⟩ := own_cI X289 hx hZ hown hml (rmiHm l Z A0 hw [] b289 (0 : UInt32) (0 : Int32) (.null) (0 : Int32) (.null) (0 : Int32) h289 n0 Z289 A289 F_loadFactor_b289 ge_b289 F_size_b289 F_values_b289 F_modCount_b289 F_table_b289 F_threshold_b289) (hwd 69 rfl) (hwd 70 rfl) (hwd 68 rfl) (hwd 71 rfl) (by decide) pd_19 e289 rfl (g := (mkF m 168 #[vI p0, vI p1, vI p2, vI p3, vI p4, vI p5, vI v1, vI v2, vR b4, vR b21, vR b38, vR b55, vR b72, vR b115, vR b120, vR b125, vR b130, vR b135, .unset, .unset, .unset, .unset, .unset, .unset, .unset, .unset] [(.ref b289), (.ref b289)])) (rest := [(.ref b289)]) rfl rfl rfl rfl (hb hby at_168) rfl
  obtain ⟨rfl, Nq290, Kq290, F291, F292, F293, F294, F295, F296, F297⟩ := hQ290
  have N290 := Fr.app N261 Nq290
  have K290 : Keep h0 T290.heap [] := K289.trans Kq290 ((allS (Or.inr sz_b289) all0))
  have Z290 := ql Z289 Kq290.1
  refine qb st290 ?_
  show qG p e below _ (T290.setTop (mkF m 171 #[vI p0, vI p1, vI p2, vI p3, vI p4, vI p5, vI v1, vI v2, vR b4, vR b21, vR b38, vR b55, vR b72, vR b115, vR b120, vR b125, vR b130, vR b135, .unset, .unset, .unset, .unset, .unset, .unset, .unset, .unset] [(.ref b289)]))
  have M298 : own_Mp Z T290.heap b289 (own_K b4 b21 b38 b55 b72) (own_C v2 0) (own_X p1 p2 p3 p4 p5) (0 : Int) h0.size := ⟨F291, ⟨_, F292⟩, F294, Or.inl ⟨F296, F293, F295, F297, fun _ _ h => absurd h.1 (Nat.not_lt_zero _)⟩⟩
  refine qb (fun _ k => XS.astore X290.here hx rfl (hb hby at_171) rfl rfl (l' := #[vI p0, vI p1, vI p2, vI p3, vI p4, vI p5, vI v1, vI v2, vR b4, vR b21, vR b38, vR b55, vR b72, vR b115, vR b120, vR b125, vR b130, vR b135, vR b289, .unset, .unset, .unset, .unset, .unset, .unset, .unset]) rfl k) ?_
  show qG p e below _ (T290.setTop (mkF m 173 #[vI p0, vI p1, vI p2, vI p3, vI p4, vI p5, vI v1, vI v2, vR b4, vR b21, vR b38, vR b55, vR b72, vR b115, vR b120, vR b125, vR b130, vR b135, vR b289, .unset, .unset, .unset, .unset, .unset, .unset, .unset] []))
  refine qb (fun _ k => XS.iload X290.here hx rfl (hb hby at_173) rfl k) ?_
  refine qb (fun _ k => XS.iconst X290.here hx rfl (hb hby at_175) k) ?_
  refine qb (fun _ k => XS.iand X290.here hx rfl (hb hby at_176) rfl k) ?_
  have J396 : ∀ (T397 : State) (L398 : List Loc) (h402 : Heap), Stand p l e room_1 s m #[(.int p0), (.int p1), (.int p2), (.int p3), (.int p4), (.int p5)] below meth c T397 L398 20 75 → T397.heap = h402 → Fr n0 L398 → Keep h0 h402 [] → n0 ≤ h402.size → Exa Z h402 b135 "java/util/ArrayList" → Exa Z h402 b21 "java/lang/String" → Exa Z h402 b289 "java/util/HashMap" → Exa Z h402 b38 "java/lang/String" → Exa Z h402 b4 "java/lang/String" → Exa Z h402 b55 "java/lang/String" → Exa Z h402 b72 "java/lang/String" → Exa Z h402 f_DE "[Ljava/lang/Object;" → Sta Z h402 cST "COMPACT_STRINGS" "Z" (.int f_CS) → Sta Z h402 "java/lang/Integer$IntegerCache" "high" "I" (.int 127) → Sta Z h402 "java/lang/Integer$IntegerCache" "cache" "[Ljava/lang/Integer;" (.ref f_CA) → own_Ca Z h402 f_CA k_CA fn_CA → own_Ks Z h402 (own_K b4 b21 b38 b55 b72) → own_Al Z h402 b135 v1 (own_K b4 b21 b38 b55 b72) → own_Mp Z h402 b289 (own_K b4 b21 b38 b55 b72) (own_C v2 1) (own_X p1 p2 p3 p4 p5) (1 : Int) h0.size → (True) → qG p e below (own_Fin s 80 320 (Q0 Z f_CS f_DE k_f_DE fn_f_DE f_CA k_CA fn_CA p0 p1 p2 p3 p4 p5 h0 n0)) (T397.setTop (mkF m 192 #[vI p0, vI p1, vI p2, vI p3, vI p4, vI p5, vI v1, vI v2, vR b4, vR b21, vR b38, vR b55, vR b72, vR b115, vR b120, vR b125, vR b130, vR b135, vR b289, .unset, .unset, .unset, .unset, .unset, .unset, .unset] [])) := by
   intro T397 L398 h402 X399 e400 N401 K403 Z404 F405 F406 F407 F408 F409 F410 F411 F412 F413 F414 F415 F416 F417 F418 F419 hj420
   refine qb (fun _ k => XS.iload X399.here hx rfl (hb hby at_192) rfl k) ?_
   refine qb (fun _ k => XS.iconst X399.here hx rfl (hb hby at_194) k) ?_
   refine qb (fun _ k => XS.iand X399.here hx rfl (hb hby at_195) rfl k) ?_
   have J515 : ∀ (T516 : State) (L517 : List Loc) (h521 : Heap), Stand p l e room_1 s m #[(.int p0), (.int p1), (.int p2), (.int p3), (.int p4), (.int p5)] below meth c T516 L517 23 96 → T516.heap = h521 → Fr n0 L517 → Keep h0 h521 [] → n0 ≤ h521.size → Exa Z h521 b135 "java/util/ArrayList" → Exa Z h521 b21 "java/lang/String" → Exa Z h521 b289 "java/util/HashMap" → Exa Z h521 b38 "java/lang/String" → Exa Z h521 b4 "java/lang/String" → Exa Z h521 b55 "java/lang/String" → Exa Z h521 b72 "java/lang/String" → Exa Z h521 f_DE "[Ljava/lang/Object;" → Sta Z h521 cST "COMPACT_STRINGS" "Z" (.int f_CS) → Sta Z h521 "java/lang/Integer$IntegerCache" "high" "I" (.int 127) → Sta Z h521 "java/lang/Integer$IntegerCache" "cache" "[Ljava/lang/Integer;" (.ref f_CA) → own_Ca Z h521 f_CA k_CA fn_CA → own_Ks Z h521 (own_K b4 b21 b38 b55 b72) → own_Al Z h521 b135 v1 (own_K b4 b21 b38 b55 b72) → own_Mp Z h521 b289 (own_K b4 b21 b38 b55 b72) (own_C v2 2) (own_X p1 p2 p3 p4 p5) (2 : Int) h0.size → (True) → qG p e below (own_Fin s 80 320 (Q0 Z f_CS f_DE k_f_DE fn_f_DE f_CA k_CA fn_CA p0 p1 p2 p3 p4 p5 h0 n0)) (T516.setTop (mkF m 211 #[vI p0, vI p1, vI p2, vI p3, vI p4, vI p5, vI v1, vI v2, vR b4, vR b21, vR b38, vR b55, vR b72, vR b115, vR b120, vR b125, vR b130, vR b135, vR b289, .unset, .unset, .unset, .unset, .unset, .unset, .unset] [])) := by
    intro T516 L517 h521 X518 e519 N520 K522 Z523 F524 F525 F526 F527 F528 F529 F530 F531 F532 F533 F534 F535 F536 F537 F538 hj539
    refine qb (fun _ k => XS.iload X518.here hx rfl (hb hby at_211) rfl k) ?_
    refine qb (fun _ k => XS.iconst X518.here hx rfl (hb hby at_213) k) ?_
    refine qb (fun _ k => XS.iand X518.here hx rfl (hb hby at_214) rfl k) ?_
    have J634 : ∀ (T635 : State) (L636 : List Loc) (h640 : Heap), Stand p l e room_1 s m #[(.int p0), (.int p1), (.int p2), (.int p3), (.int p4), (.int p5)] below meth c T635 L636 26 117 → T635.heap = h640 → Fr n0 L636 → Keep h0 h640 [] → n0 ≤ h640.size → Exa Z h640 b135 "java/util/ArrayList" → Exa Z h640 b21 "java/lang/String" → Exa Z h640 b289 "java/util/HashMap" → Exa Z h640 b38 "java/lang/String" → Exa Z h640 b4 "java/lang/String" → Exa Z h640 b55 "java/lang/String" → Exa Z h640 b72 "java/lang/String" → Exa Z h640 f_DE "[Ljava/lang/Object;" → Sta Z h640 cST "COMPACT_STRINGS" "Z" (.int f_CS) → Sta Z h640 "java/lang/Integer$IntegerCache" "high" "I" (.int 127) → Sta Z h640 "java/lang/Integer$IntegerCache" "cache" "[Ljava/lang/Integer;" (.ref f_CA) → own_Ca Z h640 f_CA k_CA fn_CA → own_Ks Z h640 (own_K b4 b21 b38 b55 b72) → own_Al Z h640 b135 v1 (own_K b4 b21 b38 b55 b72) → own_Mp Z h640 b289 (own_K b4 b21 b38 b55 b72) (own_C v2 3) (own_X p1 p2 p3 p4 p5) (3 : Int) h0.size → (True) → qG p e below (own_Fin s 80 320 (Q0 Z f_CS f_DE k_f_DE fn_f_DE f_CA k_CA fn_CA p0 p1 p2 p3 p4 p5 h0 n0)) (T635.setTop (mkF m 230 #[vI p0, vI p1, vI p2, vI p3, vI p4, vI p5, vI v1, vI v2, vR b4, vR b21, vR b38, vR b55, vR b72, vR b115, vR b120, vR b125, vR b130, vR b135, vR b289, .unset, .unset, .unset, .unset, .unset, .unset, .unset] [])) := by
     intro T635 L636 h640 X637 e638 N639 K641 Z642 F643 F644 F645 F646 F647 F648 F649 F650 F651 F652 F653 F654 F655 F656 F657 hj658
     refine qb (fun _ k => XS.iload X637.here hx rfl (hb hby at_230) rfl k) ?_
     refine qb (fun _ k => XS.bipush X637.here hx rfl (hb hby at_232) k) ?_
     refine qb (fun _ k => XS.iand X637.here hx rfl (hb hby at_234) rfl k) ?_
     have J753 : ∀ (T754 : State) (L755 : List Loc) (h759 : Heap), Stand p l e room_1 s m #[(.int p0), (.int p1), (.int p2), (.int p3), (.int p4), (.int p5)] below meth c T754 L755 29 138 → T754.heap = h759 → Fr n0 L755 → Keep h0 h759 [] → n0 ≤ h759.size → Exa Z h759 b135 "java/util/ArrayList" → Exa Z h759 b21 "java/lang/String" → Exa Z h759 b289 "java/util/HashMap" → Exa Z h759 b38 "java/lang/String" → Exa Z h759 b4 "java/lang/String" → Exa Z h759 b55 "java/lang/String" → Exa Z h759 b72 "java/lang/String" → Exa Z h759 f_DE "[Ljava/lang/Object;" → Sta Z h759 cST "COMPACT_STRINGS" "Z" (.int f_CS) → Sta Z h759 "java/lang/Integer$IntegerCache" "high" "I" (.int 127) → Sta Z h759 "java/lang/Integer$IntegerCache" "cache" "[Ljava/lang/Integer;" (.ref f_CA) → own_Ca Z h759 f_CA k_CA fn_CA → own_Ks Z h759 (own_K b4 b21 b38 b55 b72) → own_Al Z h759 b135 v1 (own_K b4 b21 b38 b55 b72) → own_Mp Z h759 b289 (own_K b4 b21 b38 b55 b72) (own_C v2 4) (own_X p1 p2 p3 p4 p5) (4 : Int) h0.size → (True) → qG p e below (own_Fin s 80 320 (Q0 Z f_CS f_DE k_f_DE fn_f_DE f_CA k_CA fn_CA p0 p1 p2 p3 p4 p5 h0 n0)) (T754.setTop (mkF m 251 #[vI p0, vI p1, vI p2, vI p3, vI p4, vI p5, vI v1, vI v2, vR b4, vR b21, vR b38, vR b55, vR b72, vR b115, vR b120, vR b125, vR b130, vR b135, vR b289, .unset, .unset, .unset, .unset, .unset, .unset, .unset] [])) := by
      intro T754 L755 h759 X756 e757 N758 K760 Z761 F762 F763 F764 F765 F766 F767 F768 F769 F770 F771 F772 F773 F774 F775 F776 hj777
      refine qb (fun _ k => XS.iload X756.here hx rfl (hb hby at_251) rfl k) ?_
      refine qb (fun _ k => XS.bipush X756.here hx rfl (hb hby at_253) k) ?_
      refine qb (fun _ k => XS.iand X756.here hx rfl (hb hby at_255) rfl k) ?_
      have J872 : ∀ (T873 : State) (L874 : List Loc) (h878 : Heap), Stand p l e room_1 s m #[(.int p0), (.int p1), (.int p2), (.int p3), (.int p4), (.int p5)] below meth c T873 L874 32 159 → T873.heap = h878 → Fr n0 L874 → Keep h0 h878 [] → n0 ≤ h878.size → Exa Z h878 b135 "java/util/ArrayList" → Exa Z h878 b21 "java/lang/String" → Exa Z h878 b289 "java/util/HashMap" → Exa Z h878 b38 "java/lang/String" → Exa Z h878 b4 "java/lang/String" → Exa Z h878 b55 "java/lang/String" → Exa Z h878 b72 "java/lang/String" → Exa Z h878 f_DE "[Ljava/lang/Object;" → Sta Z h878 cST "COMPACT_STRINGS" "Z" (.int f_CS) → Sta Z h878 "java/lang/Integer$IntegerCache" "high" "I" (.int 127) → Sta Z h878 "java/lang/Integer$IntegerCache" "cache" "[Ljava/lang/Integer;" (.ref f_CA) → own_Ca Z h878 f_CA k_CA fn_CA → own_Ks Z h878 (own_K b4 b21 b38 b55 b72) → own_Al Z h878 b135 v1 (own_K b4 b21 b38 b55 b72) → own_Mp Z h878 b289 (own_K b4 b21 b38 b55 b72) (own_C v2 5) (own_X p1 p2 p3 p4 p5) (5 : Int) h0.size → (True) → qG p e below (own_Fin s 80 320 (Q0 Z f_CS f_DE k_f_DE fn_f_DE f_CA k_CA fn_CA p0 p1 p2 p3 p4 p5 h0 n0)) (T873.setTop (mkF m 272 #[vI p0, vI p1, vI p2, vI p3, vI p4, vI p5, vI v1, vI v2, vR b4, vR b21, vR b38, vR b55, vR b72, vR b115, vR b120, vR b125, vR b130, vR b135, vR b289, .unset, .unset, .unset, .unset, .unset, .unset, .unset] [])) := by
       intro T873 L874 h878 X875 e876 N877 K879 Z880 F881 F882 F883 F884 F885 F886 F887 F888 F889 F890 F891 F892 F893 F894 F895 hj896
       refine qb (fun _ k => XS.iload X875.here hx rfl (hb hby at_272) rfl k) ?_
       refine qb (fun _ k => XS.iconst X875.here hx rfl (hb hby at_274) k) ?_
       refine qb (fun _ k => XS.iand X875.here hx rfl (hb hby at_275) rfl k) ?_
       have J898 : ∀ (T899 : State) (L900 : List Loc) (z904 : Int32), Stand p l e room_1 s m #[(.int p0), (.int p1), (.int p2), (.int p3), (.int p4), (.int p5)] below meth c T899 L900 32 159 → T899.heap = h878 → Fr n0 L900 → ((((v2 &&& (1 : Int32)) = (0 : Int32)) ∧ z904 = (0 : Int32)) ∨ ((¬ ((v2 &&& (1 : Int32)) = (0 : Int32))) ∧ z904 = p1)) → qG p e below (own_Fin s 80 320 (Q0 Z f_CS f_DE k_f_DE fn_f_DE f_CA k_CA fn_CA p0 p1 p2 p3 p4 p5 h0 n0)) (T899.setTop (mkF m 284 #[vI p0, vI p1, vI p2, vI p3, vI p4, vI p5, vI v1, vI v2, vR b4, vR b21, vR b38, vR b55, vR b72, vR b115, vR b120, vR b125, vR b130, vR b135, vR b289, .unset, .unset, .unset, .unset, .unset, .unset, .unset] [(.int z904)])) := by
        intro T899 L900 z904 X901 e902 N903 hj905
        refine qb (fun _ k => XS.istore X901.here hx rfl (hb hby at_284) rfl (l' := #[vI p0, vI p1, vI p2, vI p3, vI p4, vI p5, vI v1, vI v2, vR b4, vR b21, vR b38, vR b55, vR b72, vR b115, vR b120, vR b125, vR b130, vR b135, vR b289, vI z904, .unset, .unset, .unset, .unset, .unset, .unset]) rfl k) ?_
        show qG p e below _ (T899.setTop (mkF m 286 #[vI p0, vI p1, vI p2, vI p3, vI p4, vI p5, vI v1, vI v2, vR b4, vR b21, vR b38, vR b55, vR b72, vR b115, vR b120, vR b125, vR b130, vR b135, vR b289, vI z904, .unset, .unset, .unset, .unset, .unset, .unset] []))
        refine qb (fun _ k => XS.iload X901.here hx rfl (hb hby at_286) rfl k) ?_
        refine qb (fun _ k => XS.iconst X901.here hx rfl (hb hby at_288) k) ?_
        refine qb (fun _ k => XS.iand X901.here hx rfl (hb hby at_289) rfl k) ?_
        have J907 : ∀ (T908 : State) (L909 : List Loc) (z913 : Int32), Stand p l e room_1 s m #[(.int p0), (.int p1), (.int p2), (.int p3), (.int p4), (.int p5)] below meth c T908 L909 32 159 → T908.heap = h878 → Fr n0 L909 → ((((v2 &&& (2 : Int32)) = (0 : Int32)) ∧ z913 = (0 : Int32)) ∨ ((¬ ((v2 &&& (2 : Int32)) = (0 : Int32))) ∧ z913 = p2)) → qG p e below (own_Fin s 80 320 (Q0 Z f_CS f_DE k_f_DE fn_f_DE f_CA k_CA fn_CA p0 p1 p2 p3 p4 p5 h0 n0)) (T908.setTop (mkF m 298 #[vI p0, vI p1, vI p2, vI p3, vI p4, vI p5, vI v1, vI v2, vR b4, vR b21, vR b38, vR b55, vR b72, vR b115, vR b120, vR b125, vR b130, vR b135, vR b289, vI z904, .unset, .unset, .unset, .unset, .unset, .unset] [(.int z913)])) := by
         intro T908 L909 z913 X910 e911 N912 hj914
         refine qb (fun _ k => XS.istore X910.here hx rfl (hb hby at_298) rfl (l' := #[vI p0, vI p1, vI p2, vI p3, vI p4, vI p5, vI v1, vI v2, vR b4, vR b21, vR b38, vR b55, vR b72, vR b115, vR b120, vR b125, vR b130, vR b135, vR b289, vI z904, vI z913, .unset, .unset, .unset, .unset, .unset]) rfl k) ?_
         show qG p e below _ (T908.setTop (mkF m 300 #[vI p0, vI p1, vI p2, vI p3, vI p4, vI p5, vI v1, vI v2, vR b4, vR b21, vR b38, vR b55, vR b72, vR b115, vR b120, vR b125, vR b130, vR b135, vR b289, vI z904, vI z913, .unset, .unset, .unset, .unset, .unset] []))
         refine qb (fun _ k => XS.iload X910.here hx rfl (hb hby at_300) rfl k) ?_
         refine qb (fun _ k => XS.iconst X910.here hx rfl (hb hby at_302) k) ?_
         refine qb (fun _ k => XS.iand X910.here hx rfl (hb hby at_303) rfl k) ?_
         have J916 : ∀ (T917 : State) (L918 : List Loc) (z922 : Int32), Stand p l e room_1 s m #[(.int p0), (.int p1), (.int p2), (.int p3), (.int p4), (.int p5)] below meth c T917 L918 32 159 → T917.heap = h878 → Fr n0 L918 → ((((v2 &&& (4 : Int32)) = (0 : Int32)) ∧ z922 = (0 : Int32)) ∨ ((¬ ((v2 &&& (4 : Int32)) = (0 : Int32))) ∧ z922 = p3)) → qG p e below (own_Fin s 80 320 (Q0 Z f_CS f_DE k_f_DE fn_f_DE f_CA k_CA fn_CA p0 p1 p2 p3 p4 p5 h0 n0)) (T917.setTop (mkF m 312 #[vI p0, vI p1, vI p2, vI p3, vI p4, vI p5, vI v1, vI v2, vR b4, vR b21, vR b38, vR b55, vR b72, vR b115, vR b120, vR b125, vR b130, vR b135, vR b289, vI z904, vI z913, .unset, .unset, .unset, .unset, .unset] [(.int z922)])) := by
          intro T917 L918 z922 X919 e920 N921 hj923
          refine qb (fun _ k => XS.istore X919.here hx rfl (hb hby at_312) rfl (l' := #[vI p0, vI p1, vI p2, vI p3, vI p4, vI p5, vI v1, vI v2, vR b4, vR b21, vR b38, vR b55, vR b72, vR b115, vR b120, vR b125, vR b130, vR b135, vR b289, vI z904, vI z913, vI z922, .unset, .unset, .unset, .unset]) rfl k) ?_
          show qG p e below _ (T917.setTop (mkF m 314 #[vI p0, vI p1, vI p2, vI p3, vI p4, vI p5, vI v1, vI v2, vR b4, vR b21, vR b38, vR b55, vR b72, vR b115, vR b120, vR b125, vR b130, vR b135, vR b289, vI z904, vI z913, vI z922, .unset, .unset, .unset, .unset] []))
          refine qb (fun _ k => XS.iload X919.here hx rfl (hb hby at_314) rfl k) ?_
          refine qb (fun _ k => XS.bipush X919.here hx rfl (hb hby at_316) k) ?_
          refine qb (fun _ k => XS.iand X919.here hx rfl (hb hby at_318) rfl k) ?_
          have J925 : ∀ (T926 : State) (L927 : List Loc) (z931 : Int32), Stand p l e room_1 s m #[(.int p0), (.int p1), (.int p2), (.int p3), (.int p4), (.int p5)] below meth c T926 L927 32 159 → T926.heap = h878 → Fr n0 L927 → ((((v2 &&& (8 : Int32)) = (0 : Int32)) ∧ z931 = (0 : Int32)) ∨ ((¬ ((v2 &&& (8 : Int32)) = (0 : Int32))) ∧ z931 = p4)) → qG p e below (own_Fin s 80 320 (Q0 Z f_CS f_DE k_f_DE fn_f_DE f_CA k_CA fn_CA p0 p1 p2 p3 p4 p5 h0 n0)) (T926.setTop (mkF m 328 #[vI p0, vI p1, vI p2, vI p3, vI p4, vI p5, vI v1, vI v2, vR b4, vR b21, vR b38, vR b55, vR b72, vR b115, vR b120, vR b125, vR b130, vR b135, vR b289, vI z904, vI z913, vI z922, .unset, .unset, .unset, .unset] [(.int z931)])) := by
           intro T926 L927 z931 X928 e929 N930 hj932
           refine qb (fun _ k => XS.istore X928.here hx rfl (hb hby at_328) rfl (l' := #[vI p0, vI p1, vI p2, vI p3, vI p4, vI p5, vI v1, vI v2, vR b4, vR b21, vR b38, vR b55, vR b72, vR b115, vR b120, vR b125, vR b130, vR b135, vR b289, vI z904, vI z913, vI z922, vI z931, .unset, .unset, .unset]) rfl k) ?_
           show qG p e below _ (T926.setTop (mkF m 330 #[vI p0, vI p1, vI p2, vI p3, vI p4, vI p5, vI v1, vI v2, vR b4, vR b21, vR b38, vR b55, vR b72, vR b115, vR b120, vR b125, vR b130, vR b135, vR b289, vI z904, vI z913, vI z922, vI z931, .unset, .unset, .unset] []))
           refine qb (fun _ k => XS.iload X928.here hx rfl (hb hby at_330) rfl k) ?_
           refine qb (fun _ k => XS.iload X928.here hx rfl (hb hby at_332) rfl k) ?_
           refine qb (fun _ k => XS.iload X928.here hx rfl (hb hby at_334) rfl k) ?_
           refine qb (fun _ k => XS.iload X928.here hx rfl (hb hby at_336) rfl k) ?_
           refine qb (fun _ k => XS.iload X928.here hx rfl (hb hby at_338) rfl k) ?_
           obtain ⟨_, T933, Lc933, X933, hQ933, st933⟩ := own_cS X928 hx hZ hown hml (rmexp l Z A0 hw [] v1 z904 z913 z922 z931 h878 n0 Z880 hn0 hn5) (hwd 82 rfl) (hwd 83 rfl) (hwd 84 rfl) (hwd 85 rfl) (by decide) pd_82 e929 (g := (mkF m 340 #[vI p0, vI p1, vI p2, vI p3, vI p4, vI p5, vI v1, vI v2, vR b4, vR b21, vR b38, vR b55, vR b72, vR b115, vR b120, vR b125, vR b130, vR b135, vR b289, vI z904, vI z913, vI z922, vI z931, .unset, .unset, .unset] [(.int z931), (.int z922), (.int z913), (.int z904), (.int v1)])) (rest := []) rfl rfl rfl rfl (hb hby at_340) rfl
           obtain ⟨b934, rfl, Nq933, eq933, hp935⟩ := hQ933
           have N933 := Fr.app N930 Nq933
           refine qb st933 ?_
           show qG p e below _ (T933.setTop (mkF m 343 #[vI p0, vI p1, vI p2, vI p3, vI p4, vI p5, vI v1, vI v2, vR b4, vR b21, vR b38, vR b55, vR b72, vR b115, vR b120, vR b125, vR b130, vR b135, vR b289, vI z904, vI z913, vI z922, vI z931, .unset, .unset, .unset] [(.double b934)]))
           refine qb (fun _ k => XS.dstore X933.here hx rfl (hb hby at_343) rfl (l' := #[vI p0, vI p1, vI p2, vI p3, vI p4, vI p5, vI v1, vI v2, vR b4, vR b21, vR b38, vR b55, vR b72, vR b115, vR b120, vR b125, vR b130, vR b135, vR b289, vI z904, vI z913, vI z922, vI z931, vD b934, .second, .unset]) rfl k) ?_
           show qG p e below _ (T933.setTop (mkF m 345 #[vI p0, vI p1, vI p2, vI p3, vI p4, vI p5, vI v1, vI v2, vR b4, vR b21, vR b38, vR b55, vR b72, vR b115, vR b120, vR b125, vR b130, vR b135, vR b289, vI z904, vI z913, vI z922, vI z931, vD b934, .second, .unset] []))
           obtain ⟨T936, h936, X936, e936, E936, A936, D936, -, st936⟩ := newO X933 hx hZ hown (hwd 86 rfl) (hwd 87 rfl) (hwd 88 rfl) eq933 (g := (mkF m 345 #[vI p0, vI p1, vI p2, vI p3, vI p4, vI p5, vI v1, vI v2, vR b4, vR b21, vR b38, vR b55, vR b72, vR b115, vR b120, vR b125, vR b130, vR b135, vR b289, vI z904, vI z913, vI z922, vI z931, vD b934, .second, .unset] [])) rfl (hb hby at_345) (by decide) (by decide)
           obtain ⟨b936, g936⟩ : ∃ z, z = h878.size := ⟨_, rfl⟩
           have ge_b936 : n0 ≤ b936 := ql Z880 (Nat.le_of_eq g936.symm)
           have sz_b936 := ql K879.1 (Nat.le_of_eq g936.symm)
           have K936 : Keep h0 h936 [] := K879.ext E936
           have Z936 := ql Z880 E936.1
           rw [← g936] at A936 D936 st936
           have F_relevance_b936 : Fld Z h936 b936 "com/example/libacross/libacross/eval/JudgedRanking" "relevance" "[I" .null := D936 (Or.inr (hwd 106 rfl)) (ty := (.array .int)) (by decide)
           have F_idealGains_b936 : Fld Z h936 b936 "com/example/libacross/libacross/eval/JudgedRanking" "idealGains" "[I" .null := D936 (Or.inr (hwd 213 rfl)) (ty := (.array .int)) (by decide)
           refine qb st936 ?_
           show qG p e below _ (T936.setTop (mkF m 348 #[vI p0, vI p1, vI p2, vI p3, vI p4, vI p5, vI v1, vI v2, vR b4, vR b21, vR b38, vR b55, vR b72, vR b115, vR b120, vR b125, vR b130, vR b135, vR b289, vI z904, vI z913, vI z922, vI z931, vD b934, .second, .unset] [(.ref b936)]))
           refine qb (fun _ k => XS.dup X936.here hx rfl (hb hby at_348) rfl rfl k) ?_
           refine qb (fun _ k => XS.aload X936.here hx rfl (hb hby at_349) rfl rfl k) ?_
           refine qb (fun _ k => XS.aload X936.here hx rfl (hb hby at_351) rfl rfl k) ?_
           have F938 := (F894.ext E936)
           have Fs937 := F938.2.1
           have F939 := (F881.ext E936)
           have F940 := (F883.ext E936)
           have F941 := (F895.ext E936)
           have F942 := (F893.ext E936)
           have F943 := (F890.ext E936)
           have F944 := (F891.ext E936)
           have F945 := (F892.ext E936)
           have F946 := (F889.ext E936)
           have F947 := (F885.ext E936)
           have F948 := (F882.ext E936)
           have F949 := (F884.ext E936)
           have F950 := (F886.ext E936)
           have F951 := (F887.ext E936)
           obtain ⟨_, T952, Lc952, X952, hQ952, st952⟩ := own_cI X936 hx hZ hown hml (rmjri l Z A0 hw [] v1 b4 b21 b38 b55 b72 (own_C v2 5) (own_X p1 p2 p3 p4 p5) h0.size f_CA k_CA fn_CA f_CS b936 b135 b289 (.null) (.null) h936 n0 Z936 A936 F938 F939 Fs937 hn0 hn5 F940 F941 F942 F943 F944 F945 F946 hn_CS F947 F948 F949 F950 F951 hp7 hp24 hp41 hp58 hp75 F_relevance_b936 ge_b936 (Ne.symm ne279) (Ne.symm ne280) ne278 ne283 ne281 ne282 ne286 ne284 ne285 ne287 ge_b289 F_idealGains_b936) (hwd 89 rfl) (hwd 90 rfl) (hwd 88 rfl) (hwd 91 rfl) (by decide) pd_89 e936 rfl (g := (mkF m 353 #[vI p0, vI p1, vI p2, vI p3, vI p4, vI p5, vI v1, vI v2, vR b4, vR b21, vR b38, vR b55, vR b72, vR b115, vR b120, vR b125, vR b130, vR b135, vR b289, vI z904, vI z913, vI z922, vI z931, vD b934, .second, .unset] [(.ref b289), (.ref b135), (.ref b936), (.ref b936)])) (rest := [(.ref b936)]) rfl rfl rfl rfl (hb hby at_353) rfl
           obtain ⟨b953, b954, b955, rfl, Nq952, Kq952, hp956, hp957, F958, F959, F960, F961, hp962⟩ := hQ952
           have N952 := Fr.app N933 Nq952
           have K952 : Keep h0 T952.heap [] := K936.trans Kq952 ((allS (Or.inr sz_b4) (allS (Or.inr sz_b21) (allS (Or.inr sz_b38) (allS (Or.inr sz_b55) (allS (Or.inr sz_b72) (allS (Or.inr sz_b936) (allS (Or.inr sz_b289) all0))))))))
           have Z952 := ql Z936 Kq952.1
           have sz_b953 := ql K936.1 hp957
           refine qb st952 ?_
           show qG p e below _ (T952.setTop (mkF m 356 #[vI p0, vI p1, vI p2, vI p3, vI p4, vI p5, vI v1, vI v2, vR b4, vR b21, vR b38, vR b55, vR b72, vR b115, vR b120, vR b125, vR b130, vR b135, vR b289, vI z904, vI z913, vI z922, vI z931, vD b934, .second, .unset] [(.ref b936)]))
           refine qb (fun _ k => XS.astore X952.here hx rfl (hb hby at_356) rfl rfl (l' := #[vI p0, vI p1, vI p2, vI p3, vI p4, vI p5, vI v1, vI v2, vR b4, vR b21, vR b38, vR b55, vR b72, vR b115, vR b120, vR b125, vR b130, vR b135, vR b289, vI z904, vI z913, vI z922, vI z931, vD b934, .second, vR b936]) rfl k) ?_
           show qG p e below _ (T952.setTop (mkF m 358 #[vI p0, vI p1, vI p2, vI p3, vI p4, vI p5, vI v1, vI v2, vR b4, vR b21, vR b38, vR b55, vR b72, vR b115, vR b120, vR b125, vR b130, vR b135, vR b289, vI z904, vI z913, vI z922, vI z931, vD b934, .second, vR b936] []))
           refine qb (fun _ k => XS.aload X952.here hx rfl (hb hby at_358) rfl rfl k) ?_
           obtain ⟨_, T963, Lc963, X963, hQ963, st963⟩ := own_cV X952 hx hZ hown hml (rmrrk l Z A0 hw [] b953 b954 v1 b955 b936 T952.heap n0 Z952 F958 F959 F961 hn5 hn0) (hwd 214 rfl) (hwd 216 rfl) (hwd 88 rfl) (hwd 218 rfl) (by decide) pd_214 rfl (hwd 215 rfl) (hwd 217 rfl) F958 (g := (mkF m 360 #[vI p0, vI p1, vI p2, vI p3, vI p4, vI p5, vI v1, vI v2, vR b4, vR b21, vR b38, vR b55, vR b72, vR b115, vR b120, vR b125, vR b130, vR b135, vR b289, vI z904, vI z913, vI z922, vI z931, vD b934, .second, vR b936] [(.ref b936)])) (rest := []) rfl rfl rfl rfl (hb hby at_360) rfl
           obtain ⟨b964, rfl, Nq963, eq963, hp965⟩ := hQ963
           have N963 := Fr.app N952 Nq963
           refine qb st963 ?_
           show qG p e below _ (T963.setTop (mkF m 363 #[vI p0, vI p1, vI p2, vI p3, vI p4, vI p5, vI v1, vI v2, vR b4, vR b21, vR b38, vR b55, vR b72, vR b115, vR b120, vR b125, vR b130, vR b135, vR b289, vI z904, vI z913, vI z922, vI z931, vD b934, .second, vR b936] [(.double b964)]))
           refine qb (fun _ k => XS.dload X963.here hx rfl (hb hby at_363) rfl k) ?_
           show qG p e below _ (T963.setTop (mkF m 365 #[vI p0, vI p1, vI p2, vI p3, vI p4, vI p5, vI v1, vI v2, vR b4, vR b21, vR b38, vR b55, vR b72, vR b115, vR b120, vR b125, vR b130, vR b135, vR b289, vI z904, vI z913, vI z922, vI z931, vD b934, .second, vR b936] [(.double b934), (.double b964)]))
           refine qb (fun _ k => XS.dcmpS X963.here hx rfl (hb hby at_365) rfl rfl k) ?_
           show qG p e below _ (T963.setTop (mkF m 366 #[vI p0, vI p1, vI p2, vI p3, vI p4, vI p5, vI v1, vI v2, vR b4, vR b21, vR b38, vR b55, vR b72, vR b115, vR b120, vR b125, vR b130, vR b135, vR b289, vI z904, vI z913, vI z922, vI z931, vD b934, .second, vR b936] [(.int (cmpValue (FP.dcmp b964 b934) .l))]))
           by_cases c966 : (cmpValue (FP.dcmp b964 b934) .l) = (0 : Int32)
           ·skip
            refine qb (fun _ k => XS.ifNo X963.here hx rfl (hb hby at_366) rfl ((if0 _ _).trans (teq c966).2) k) ?_
            show qG p e below _ (T963.setTop (mkF m 369 #[vI p0, vI p1, vI p2, vI p3, vI p4, vI p5, vI v1, vI v2, vR b4, vR b21, vR b38, vR b55, vR b72, vR b115, vR b120, vR b125, vR b130, vR b135, vR b289, vI z904, vI z913, vI z922, vI z931, vD b934, .second, vR b936] []))
            refine qb (fun _ k => XS.iconst X963.here hx rfl (hb hby at_369) k) ?_
            refine qb (fun _ k => XS.goto X963.here hx rfl (pc0 := 370) (pc' := 374) rfl (hb hby at_370) (by decide) (by decide) k) ?_
            show qG p e below _ (T963.setTop (mkF m 374 #[vI p0, vI p1, vI p2, vI p3, vI p4, vI p5, vI v1, vI v2, vR b4, vR b21, vR b38, vR b55, vR b72, vR b115, vR b120, vR b125, vR b130, vR b135, vR b289, vI z904, vI z913, vI z922, vI z931, vD b934, .second, vR b936] [(.int 1)]))
            exact own_retN X963 hx (t := .boolean) hrt (by simp) (hb hby at_374) hlk eq963 ⟨rfl, N963⟩ (by decide) (by decide)
           ·skip
            refine qb (fun _ k => XS.ifYes X963.here hx rfl (pc0 := 366) (pc' := 373) rfl (hb hby at_366) rfl ((if0 _ _).trans (feq c966).2) (by decide) (by decide) k) ?_
            show qG p e below _ (T963.setTop (mkF m 373 #[vI p0, vI p1, vI p2, vI p3, vI p4, vI p5, vI v1, vI v2, vR b4, vR b21, vR b38, vR b55, vR b72, vR b115, vR b120, vR b125, vR b130, vR b135, vR b289, vI z904, vI z913, vI z922, vI z931, vD b934, .second, vR b936] []))
            refine qb (fun _ k => XS.iconst X963.here hx rfl (hb hby at_373) k) ?_
            exact own_retN X963 hx (t := .boolean) hrt (by simp) (hb hby at_374) hlk eq963 ⟨((ob_0_124 f_CS p0 p1 p2 p3 p4 p5 v1 v2 z904 z913 z922 z931 b934 b955 b964 hn_CS hv1 hn0 hn5 hv2 hj905 hj914 hj923 hj932 hp935 hp962 hp965 c966)).elim, N963⟩ (by decide) (by decide)
          by_cases c924 : (v2 &&& (8 : Int32)) = (0 : Int32)
          ·skip
           refine qb (fun _ k => XS.ifYes X919.here hx rfl (pc0 := 319) (pc' := 327) rfl (hb hby at_319) rfl ((if0 _ _).trans (teq c924).1) (by decide) (by decide) k) ?_
           show qG p e below _ (T917.setTop (mkF m 327 #[vI p0, vI p1, vI p2, vI p3, vI p4, vI p5, vI v1, vI v2, vR b4, vR b21, vR b38, vR b55, vR b72, vR b115, vR b120, vR b125, vR b130, vR b135, vR b289, vI z904, vI z913, vI z922, .unset, .unset, .unset, .unset] []))
           refine qb (fun _ k => XS.iconst X919.here hx rfl (hb hby at_327) k) ?_
           exact J925 _ _ (0 : Int32) X919 e920 N921 (Or.inl ⟨c924, rfl⟩)
          ·skip
           refine qb (fun _ k => XS.ifNo X919.here hx rfl (hb hby at_319) rfl ((if0 _ _).trans (feq c924).1) k) ?_
           show qG p e below _ (T917.setTop (mkF m 322 #[vI p0, vI p1, vI p2, vI p3, vI p4, vI p5, vI v1, vI v2, vR b4, vR b21, vR b38, vR b55, vR b72, vR b115, vR b120, vR b125, vR b130, vR b135, vR b289, vI z904, vI z913, vI z922, .unset, .unset, .unset, .unset] []))
           refine qb (fun _ k => XS.iload X919.here hx rfl (hb hby at_322) rfl k) ?_
           refine qb (fun _ k => XS.goto X919.here hx rfl (pc0 := 324) (pc' := 328) rfl (hb hby at_324) (by decide) (by decide) k) ?_
           show qG p e below _ (T917.setTop (mkF m 328 #[vI p0, vI p1, vI p2, vI p3, vI p4, vI p5, vI v1, vI v2, vR b4, vR b21, vR b38, vR b55, vR b72, vR b115, vR b120, vR b125, vR b130, vR b135, vR b289, vI z904, vI z913, vI z922, .unset, .unset, .unset, .unset] [(.int p4)]))
           exact J925 _ _ p4 X919 e920 N921 (Or.inr (⟨c924, rfl⟩))
         by_cases c915 : (v2 &&& (4 : Int32)) = (0 : Int32)
         ·skip
          refine qb (fun _ k => XS.ifYes X910.here hx rfl (pc0 := 304) (pc' := 311) rfl (hb hby at_304) rfl ((if0 _ _).trans (teq c915).1) (by decide) (by decide) k) ?_
          show qG p e below _ (T908.setTop (mkF m 311 #[vI p0, vI p1, vI p2, vI p3, vI p4, vI p5, vI v1, vI v2, vR b4, vR b21, vR b38, vR b55, vR b72, vR b115, vR b120, vR b125, vR b130, vR b135, vR b289, vI z904, vI z913, .unset, .unset, .unset, .unset, .unset] []))
          refine qb (fun _ k => XS.iconst X910.here hx rfl (hb hby at_311) k) ?_
          exact J916 _ _ (0 : Int32) X910 e911 N912 (Or.inl ⟨c915, rfl⟩)
         ·skip
          refine qb (fun _ k => XS.ifNo X910.here hx rfl (hb hby at_304) rfl ((if0 _ _).trans (feq c915).1) k) ?_
          show qG p e below _ (T908.setTop (mkF m 307 #[vI p0, vI p1, vI p2, vI p3, vI p4, vI p5, vI v1, vI v2, vR b4, vR b21, vR b38, vR b55, vR b72, vR b115, vR b120, vR b125, vR b130, vR b135, vR b289, vI z904, vI z913, .unset, .unset, .unset, .unset, .unset] []))
          refine qb (fun _ k => XS.iloadN X910.here hx rfl (hb hby at_307) rfl k) ?_
          refine qb (fun _ k => XS.goto X910.here hx rfl (pc0 := 308) (pc' := 312) rfl (hb hby at_308) (by decide) (by decide) k) ?_
          show qG p e below _ (T908.setTop (mkF m 312 #[vI p0, vI p1, vI p2, vI p3, vI p4, vI p5, vI v1, vI v2, vR b4, vR b21, vR b38, vR b55, vR b72, vR b115, vR b120, vR b125, vR b130, vR b135, vR b289, vI z904, vI z913, .unset, .unset, .unset, .unset, .unset] [(.int p3)]))
          exact J916 _ _ p3 X910 e911 N912 (Or.inr (⟨c915, rfl⟩))
        by_cases c906 : (v2 &&& (2 : Int32)) = (0 : Int32)
        ·skip
         refine qb (fun _ k => XS.ifYes X901.here hx rfl (pc0 := 290) (pc' := 297) rfl (hb hby at_290) rfl ((if0 _ _).trans (teq c906).1) (by decide) (by decide) k) ?_
         show qG p e below _ (T899.setTop (mkF m 297 #[vI p0, vI p1, vI p2, vI p3, vI p4, vI p5, vI v1, vI v2, vR b4, vR b21, vR b38, vR b55, vR b72, vR b115, vR b120, vR b125, vR b130, vR b135, vR b289, vI z904, .unset, .unset, .unset, .unset, .unset, .unset] []))
         refine qb (fun _ k => XS.iconst X901.here hx rfl (hb hby at_297) k) ?_
         exact J907 _ _ (0 : Int32) X901 e902 N903 (Or.inl ⟨c906, rfl⟩)
        ·skip
         refine qb (fun _ k => XS.ifNo X901.here hx rfl (hb hby at_290) rfl ((if0 _ _).trans (feq c906).1) k) ?_
         show qG p e below _ (T899.setTop (mkF m 293 #[vI p0, vI p1, vI p2, vI p3, vI p4, vI p5, vI v1, vI v2, vR b4, vR b21, vR b38, vR b55, vR b72, vR b115, vR b120, vR b125, vR b130, vR b135, vR b289, vI z904, .unset, .unset, .unset, .unset, .unset, .unset] []))
         refine qb (fun _ k => XS.iloadN X901.here hx rfl (hb hby at_293) rfl k) ?_
         refine qb (fun _ k => XS.goto X901.here hx rfl (pc0 := 294) (pc' := 298) rfl (hb hby at_294) (by decide) (by decide) k) ?_
         show qG p e below _ (T899.setTop (mkF m 298 #[vI p0, vI p1, vI p2, vI p3, vI p4, vI p5, vI v1, vI v2, vR b4, vR b21, vR b38, vR b55, vR b72, vR b115, vR b120, vR b125, vR b130, vR b135, vR b289, vI z904, .unset, .unset, .unset, .unset, .unset, .unset] [(.int p2)]))
         exact J907 _ _ p2 X901 e902 N903 (Or.inr (⟨c906, rfl⟩))
       by_cases c897 : (v2 &&& (1 : Int32)) = (0 : Int32)
       ·skip
        refine qb (fun _ k => XS.ifYes X875.here hx rfl (pc0 := 276) (pc' := 283) rfl (hb hby at_276) rfl ((if0 _ _).trans (teq c897).1) (by decide) (by decide) k) ?_
        show qG p e below _ (T873.setTop (mkF m 283 #[vI p0, vI p1, vI p2, vI p3, vI p4, vI p5, vI v1, vI v2, vR b4, vR b21, vR b38, vR b55, vR b72, vR b115, vR b120, vR b125, vR b130, vR b135, vR b289, .unset, .unset, .unset, .unset, .unset, .unset, .unset] []))
        refine qb (fun _ k => XS.iconst X875.here hx rfl (hb hby at_283) k) ?_
        exact J898 _ _ (0 : Int32) X875 e876 N877 (Or.inl ⟨c897, rfl⟩)
       ·skip
        refine qb (fun _ k => XS.ifNo X875.here hx rfl (hb hby at_276) rfl ((if0 _ _).trans (feq c897).1) k) ?_
        show qG p e below _ (T873.setTop (mkF m 279 #[vI p0, vI p1, vI p2, vI p3, vI p4, vI p5, vI v1, vI v2, vR b4, vR b21, vR b38, vR b55, vR b72, vR b115, vR b120, vR b125, vR b130, vR b135, vR b289, .unset, .unset, .unset, .unset, .unset, .unset, .unset] []))
        refine qb (fun _ k => XS.iloadN X875.here hx rfl (hb hby at_279) rfl k) ?_
        refine qb (fun _ k => XS.goto X875.here hx rfl (pc0 := 280) (pc' := 284) rfl (hb hby at_280) (by decide) (by decide) k) ?_
        show qG p e below _ (T873.setTop (mkF m 284 #[vI p0, vI p1, vI p2, vI p3, vI p4, vI p5, vI v1, vI v2, vR b4, vR b21, vR b38, vR b55, vR b72, vR b115, vR b120, vR b125, vR b130, vR b135, vR b289, .unset, .unset, .unset, .unset, .unset, .unset, .unset] [(.int p1)]))
        exact J898 _ _ p1 X875 e876 N877 (Or.inr (⟨c897, rfl⟩))
      by_cases c778 : (v2 &&& (16 : Int32)) = (0 : Int32)
      ·skip
       refine qb (fun _ k => XS.ifYes X756.here hx rfl (pc0 := 256) (pc' := 272) rfl (hb hby at_256) rfl ((if0 _ _).trans (teq c778).1) (by decide) (by decide) k) ?_
       show qG p e below _ (T754.setTop (mkF m 272 #[vI p0, vI p1, vI p2, vI p3, vI p4, vI p5, vI v1, vI v2, vR b4, vR b21, vR b38, vR b55, vR b72, vR b115, vR b120, vR b125, vR b130, vR b135, vR b289, .unset, .unset, .unset, .unset, .unset, .unset, .unset] []))
       have M779 : own_Mp Z h759 b289 (own_K b4 b21 b38 b55 b72) (own_C v2 5) (own_X p1 p2 p3 p4 p5) (5 : Int) h0.size := own_Mp.skip F776 (own_Cn 4 c778) (by decide)
       exact J872 _ _ _ (own_mono X756 (by decide) (by decide)) e757 N758 K760 Z761 F762 F763 F764 F765 F766 F767 F768 F769 F770 F771 F772 F773 F774 F775 M779 trivial
      ·skip
       refine qb (fun _ k => XS.ifNo X756.here hx rfl (hb hby at_256) rfl ((if0 _ _).trans (feq c778).1) k) ?_
       show qG p e below _ (T754.setTop (mkF m 259 #[vI p0, vI p1, vI p2, vI p3, vI p4, vI p5, vI v1, vI v2, vR b4, vR b21, vR b38, vR b55, vR b72, vR b115, vR b120, vR b125, vR b130, vR b135, vR b289, .unset, .unset, .unset, .unset, .unset, .unset, .unset] []))
       refine qb (fun _ k => XS.aload X756.here hx rfl (hb hby at_259) rfl rfl k) ?_
       refine qb (fun _ k => XS.aload X756.here hx rfl (hb hby at_261) rfl rfl k) ?_
       refine qb (fun _ k => XS.iload X756.here hx rfl (hb hby at_263) rfl k) ?_
       obtain ⟨_, T780, Lc780, X780, hQ780, st780⟩ := own_cS X756 hx hZ hown hml (rmivo l Z A0 hw [] f_CA k_CA fn_CA p5 h759 n0 Z761 F771 F772 F773) (hwd 310 rfl) (hwd 277 rfl) (hwd 278 rfl) (hwd 279 rfl) (by decide) pd_276 e757 (g := (mkF m 265 #[vI p0, vI p1, vI p2, vI p3, vI p4, vI p5, vI v1, vI v2, vR b4, vR b21, vR b38, vR b55, vR b72, vR b115, vR b120, vR b125, vR b130, vR b135, vR b289, .unset, .unset, .unset, .unset, .unset, .unset, .unset] [(.int p5), (.ref b72), (.ref b289)])) (rest := [(.ref b72), (.ref b289)]) rfl rfl rfl rfl (hb hby at_265) rfl
       obtain ⟨b781, rfl, Nq780, Kq780, F782, F783, hp784⟩ := hQ780
       have N780 := Fr.app N758 Nq780
       have K780 : Keep h0 T780.heap [] := K760.trans Kq780 (all0)
       have Z780 := ql Z761 Kq780.1
       refine qb st780 ?_
       show qG p e below _ (T780.setTop (mkF m 268 #[vI p0, vI p1, vI p2, vI p3, vI p4, vI p5, vI v1, vI v2, vR b4, vR b21, vR b38, vR b55, vR b72, vR b115, vR b120, vR b125, vR b130, vR b135, vR b289, .unset, .unset, .unset, .unset, .unset, .unset, .unset] [(.ref b781), (.ref b72), (.ref b289)]))
       have F785 := (F774.keep Kq780 all0)
       have Kx786 := F785.2 4 (by decide)
       obtain ⟨tk786, kk786, fk786, hv786, kE786, kc786, kv786, kh786, kz786, ktE786, ka786, hh786, hx786⟩ := Kx786
       have hn786 : ¬ (((fk786 0) &&& (255 : Int32)) = (0 : Int32)) := own_chn hx786 (by decide)
       have hb786 := own_ixb hx786 (by decide)
       have F788 := (F776.keep Kq780 all0)
       obtain ⟨-, ⟨lf787, Fl787⟩, Fv787, M0787 | ⟨tm787, km787, gm787, sm787, Mt787⟩⟩ := F788
       ·skip
        show qG p e below _ (T780.setTop (mkF m 268 #[vI p0, vI p1, vI p2, vI p3, vI p4, vI p5, vI v1, vI v2, vR b4, vR b21, vR b38, vR b55, vR b72, vR b115, vR b120, vR b125, vR b130, vR b135, vR b289, .unset, .unset, .unset, .unset, .unset, .unset, .unset] [(.ref b781), (.ref b72), (.ref b289)]))
        have F789 := (F764.keep Kq780)
        have F790 := (F768.keep Kq780)
        have F791 := qk F770 Kq780 all0
        obtain ⟨_, T792, Lc792, X792, hQ792, st792⟩ := own_cV X780 hx hZ hown hml (rmputN l Z A0 hw [] lf787 tk786 kk786 fk786 hv786 f_CS b289 b72 b781 T780.heap n0 Z780 F789 M0787.1 M0787.2.1 M0787.2.2.1 M0787.2.2.2.1 Fl787 Fv787 F790 kc786 kv786 kh786 kz786 ka786 hh786 hn786 F791 hn_CS hp75 ge_b289 hb786) (hwd 311 rfl) (hwd 313 rfl) (hwd 68 rfl) (hwd 315 rfl) (by decide) pd_283 rfl (hwd 312 rfl) (hwd 314 rfl) F789 (g := (mkF m 268 #[vI p0, vI p1, vI p2, vI p3, vI p4, vI p5, vI v1, vI v2, vR b4, vR b21, vR b38, vR b55, vR b72, vR b115, vR b120, vR b125, vR b130, vR b135, vR b289, .unset, .unset, .unset, .unset, .unset, .unset, .unset] [(.ref b781), (.ref b72), (.ref b289)])) (rest := []) rfl rfl rfl rfl (hb hby at_268) rfl
        obtain ⟨b793, b794, b795, rfl, Nq792, Kq792, F796, F797, F798, F799, F800, F801, F802, F803, F804, F805, F806, F807, hp808, hp809, F810, F811, hp812, hp813, hp814, F815, F816, F817, F818, F819, hp820⟩ := hQ792
        have N792 := Fr.app N780 Nq792
        have K792 : Keep h0 T792.heap [] := K780.trans Kq792 ((allS (Or.inr sz_b72) (allS (Or.inr sz_b289) all0)))
        have Z792 := ql Z780 Kq792.1
        have sz_b793 := ql K780.1 hp809
        have sz_b795 := ql K780.1 hp814
        refine qb st792 ?_
        show qG p e below _ (T792.setTop (mkF m 271 #[vI p0, vI p1, vI p2, vI p3, vI p4, vI p5, vI v1, vI v2, vR b4, vR b21, vR b38, vR b55, vR b72, vR b115, vR b120, vR b125, vR b130, vR b135, vR b289, .unset, .unset, .unset, .unset, .unset, .unset, .unset] [.null]))
        have F822 := (ktE786.keep Kq792)
        have nq823 := ne_exa F822 F801 (by decide)
        have nq824 := ne_exa F822 F796 (by decide)
        have F825 := (ka786.keep Kq792 (ninS nq824 (ninS nq823 nin0)))
        have Kf792 : own_Ks Z T792.heap (own_K b4 b21 b38 b55 b72) := own_Ks.put (i := 4) F785 Kq792 (by decide) rfl ((allS (Or.inl rfl) (allS (Or.inr (qo (F764.keep Kq780) (by decide))) all0))) ⟨_, _, _, _, F796, F797, F798, F799, F800, F822, F825, Or.inr rfl, hx786⟩
        have Fh821 : Fld Z T792.heap b795 cND "hash" "I" (.int (own_ch 4)) := by have q := F816; rwa [own_hsx hx786 (by decide)] at q
        have F826 := (F782.keep Kq792)
        have nq827 := ne_exa F826 F801 (by decide)
        have nq828 := ne_exa F826 F796 (by decide)
        have F829 := (F783.keep Kq792 (ninS nq828 (ninS nq827 nin0)))
        have N821 : own_Nd Z T792.heap b795 (own_ch 4) b72 b781 ((own_X p1 p2 p3 p4 p5) 4) := ⟨F815, Fh821, F817, F818, F819, F826, F829⟩
        have Sn821 : own_Ss Z T792.heap (own_K b4 b21 b38 b55 b72) (own_C v2 5) (own_X p1 p2 p3 p4 p5) (qu (fun _ => Value.null) (((15 : Int32) &&& (((fk786 0) &&& (255 : Int32)) ^^^ ((((fk786 0) &&& (255 : Int32)).toUInt32 >>> ((16 : Int32) &&& 31).toUInt32).toInt32)))).toNatClampNeg (.ref b795)) := own_Ss.put (i := 4) (own_Ss.zero (Z := Z) (h := T792.heap) (keys := (own_K b4 b21 b38 b55 b72)) (X := (own_X p1 p2 p3 p4 p5)) (C := own_C v2 4) M0787.2.2.2.2) (by decide) (own_ixx hx786 (by decide)) (own_Cs 4) (own_Ci 4 c778) N821
        have ct821 := own_szN (nd := b795) (own_ixx hx786 (by decide)) (by decide)
        have M821 : own_Mp Z T792.heap b289 (own_K b4 b21 b38 b55 b72) (own_C v2 5) (own_X p1 p2 p3 p4 p5) (5 : Int) h0.size := ⟨F801, ⟨_, F806⟩, F807, Or.inr ⟨_, _, _, _, F802, F803, F804, F805, F810, F811, hp812, Sn821, ct821.1, (by decide), sz_b793⟩⟩
        have F830 := ((F773.keep Kq780 all0).keep Kq792 (allS (qo (F768.keep Kq780) (by decide)) (allS (qo (F764.keep Kq780) (by decide)) all0)))
        have F831 := ((F775.keep Kq780 all0).keep Kq792 (allS (qo (F768.keep Kq780) (by decide)) (allS (qo (F764.keep Kq780) (by decide)) all0)))
        refine qb (fun _ k => XS.pop X792.here hx rfl (hb hby at_271) rfl rfl k) ?_
        have F832 := ((F762.keep Kq780).keep Kq792)
        have F833 := ((F763.keep Kq780).keep Kq792)
        have F834 := ((F765.keep Kq780).keep Kq792)
        have F835 := ((F766.keep Kq780).keep Kq792)
        have F836 := ((F767.keep Kq780).keep Kq792)
        have F837 := ((F769.keep Kq780).keep Kq792)
        have F838 := qk F791 Kq792 (allS (qx F790) (allS (qx F789) all0))
        have F839 := qk (qk F771 Kq780 all0) Kq792 (allS (qx F790) (allS (qx F789) all0))
        have F840 := qk (qk F772 Kq780 all0) Kq792 (allS (qx F790) (allS (qx F789) all0))
        exact J872 _ _ _ X792 rfl N792 K792 Z792 F832 F833 F801 F834 F835 F836 F796 F837 F838 F839 F840 F830 Kf792 F831 M821 trivial
       ·skip
        obtain ⟨Ft787, Fs787, Fm787, Fh787, Et787, Vt787, Ov787, Ss787, c1787, c2787, c3787⟩ := Mt787
        have ge787 : n0 ≤ tm787 := ql Z0 c3787
        have hu787 : (gm787 (((15 : Int32) &&& (((fk786 0) &&& (255 : Int32)) ^^^ ((((fk786 0) &&& (255 : Int32)).toUInt32 >>> ((16 : Int32) &&& 31).toUInt32).toInt32)))).toNatClampNeg) = .null := by rw [own_ixx hx786 (by decide)]; exact own_SlN (Ss787.2 4 (by decide)) (fun h => Nat.lt_irrefl _ h.1)
        have hp787 : ¬ ((12 : Int32) < (sm787 + (1 : Int32))) := own_pt c2787 (by decide)
        show qG p e below _ (T780.setTop (mkF m 268 #[vI p0, vI p1, vI p2, vI p3, vI p4, vI p5, vI v1, vI v2, vR b4, vR b21, vR b38, vR b55, vR b72, vR b115, vR b120, vR b125, vR b130, vR b135, vR b289, .unset, .unset, .unset, .unset, .unset, .unset, .unset] [(.ref b781), (.ref b72), (.ref b289)]))
        have F832 := (F764.keep Kq780)
        have F833 := (F768.keep Kq780)
        have F834 := qk F770 Kq780 all0
        obtain ⟨_, T835, Lc835, X835, hQ835, st835⟩ := own_cV X780 hx hZ hown hml (rmputT l Z A0 hw [] lf787 tm787 sm787 km787 gm787 tk786 kk786 fk786 hv786 f_CS b289 b72 b781 T780.heap n0 Z780 F832 Ft787 Fs787 Fm787 Fh787 Fl787 Fv787 Vt787 Ov787 F833 kc786 kv786 kh786 kz786 ka786 hh786 hn786 F834 hn_CS hu787 hp75 hb786 ge787 ge_b289 hp787) (hwd 311 rfl) (hwd 313 rfl) (hwd 68 rfl) (hwd 315 rfl) (by decide) pd_283 rfl (hwd 312 rfl) (hwd 314 rfl) F832 (g := (mkF m 268 #[vI p0, vI p1, vI p2, vI p3, vI p4, vI p5, vI v1, vI v2, vR b4, vR b21, vR b38, vR b55, vR b72, vR b115, vR b120, vR b125, vR b130, vR b135, vR b289, .unset, .unset, .unset, .unset, .unset, .unset, .unset] [(.ref b781), (.ref b72), (.ref b289)])) (rest := []) rfl rfl rfl rfl (hb hby at_268) rfl
        obtain ⟨b836, rfl, Nq835, Kq835, F837, F838, F839, F840, F841, F842, F843, F844, F845, F846, F847, F848, F849, hp850, hp851, F852, F853, F854, F855, F856⟩ := hQ835
        have N835 := Fr.app N780 Nq835
        have K835 : Keep h0 T835.heap [] := K780.trans Kq835 ((allS (Or.inr sz_b72) (allS (Or.inr sz_b289) (allS (Or.inr c3787) all0))))
        have Z835 := ql Z780 Kq835.1
        have sz_b836 := ql K780.1 hp851
        refine qb st835 ?_
        show qG p e below _ (T835.setTop (mkF m 271 #[vI p0, vI p1, vI p2, vI p3, vI p4, vI p5, vI v1, vI v2, vR b4, vR b21, vR b38, vR b55, vR b72, vR b115, vR b120, vR b125, vR b130, vR b135, vR b289, .unset, .unset, .unset, .unset, .unset, .unset, .unset] [.null]))
        have F858 := (ktE786.keep Kq835)
        have F860 := (Et787.keep Kq835)
        have nq859 := ne_exa F858 F860 (by decide)
        have nq861 := ne_exa F858 F842 (by decide)
        have nq862 := ne_exa F858 F837 (by decide)
        have F863 := (ka786.keep Kq835 (ninS nq862 (ninS nq861 (ninS nq859 nin0))))
        have Kf835 : own_Ks Z T835.heap (own_K b4 b21 b38 b55 b72) := own_Ks.put (i := 4) F785 Kq835 (by decide) rfl ((allS (Or.inl rfl) (allS (Or.inr (qo (F764.keep Kq780) (by decide))) (allS (Or.inr (qo Et787 (by decide))) all0)))) ⟨_, _, _, _, F837, F838, F839, F840, F841, F858, F863, Or.inr rfl, hx786⟩
        have Fh857 : Fld Z T835.heap b836 cND "hash" "I" (.int (own_ch 4)) := by have q := F853; rwa [own_hsx hx786 (by decide)] at q
        have F864 := (F782.keep Kq835)
        have nq865 := ne_exa F864 F860 (by decide)
        have nq866 := ne_exa F864 F842 (by decide)
        have nq867 := ne_exa F864 F837 (by decide)
        have F868 := (F783.keep Kq835 (ninS nq867 (ninS nq866 (ninS nq865 nin0))))
        have N857 : own_Nd Z T835.heap b836 (own_ch 4) b72 b781 ((own_X p1 p2 p3 p4 p5) 4) := ⟨F852, Fh857, F854, F855, F856, F864, F868⟩
        have F869 := (Ss787.keep Kq835 (allS (qo (F768.keep Kq780) (by decide)) (allS (qo (F764.keep Kq780) (by decide)) (allS (qo Et787 (by decide)) all0))))
        have Sn857 : own_Ss Z T835.heap (own_K b4 b21 b38 b55 b72) (own_C v2 5) (own_X p1 p2 p3 p4 p5) (qu gm787 (((15 : Int32) &&& (((fk786 0) &&& (255 : Int32)) ^^^ ((((fk786 0) &&& (255 : Int32)).toUInt32 >>> ((16 : Int32) &&& 31).toUInt32).toInt32)))).toNatClampNeg (.ref b836)) := own_Ss.put (i := 4) F869 (by decide) (own_ixx hx786 (by decide)) (own_Cs 4) (own_Ci 4 c778) N857
        have ct857 := own_szT (nd := b836) c1787 c2787 (by decide) hu787 (own_ixx hx786 (by decide)) (by decide)
        have M857 : own_Mp Z T835.heap b289 (own_K b4 b21 b38 b55 b72) (own_C v2 5) (own_X p1 p2 p3 p4 p5) (5 : Int) h0.size := ⟨F842, ⟨_, F847⟩, F848, Or.inr ⟨_, _, _, _, F843, F844, F845, F846, F860, F849, Ov787, Sn857, ct857.1, ct857.2, c3787⟩⟩
        have F870 := ((F773.keep Kq780 all0).keep Kq835 (allS (qo (F768.keep Kq780) (by decide)) (allS (qo (F764.keep Kq780) (by decide)) (allS (qo Et787 (by decide)) all0))))
        have F871 := ((F775.keep Kq780 all0).keep Kq835 (allS (qo (F768.keep Kq780) (by decide)) (allS (qo (F764.keep Kq780) (by decide)) (allS (qo Et787 (by decide)) all0))))
        refine qb (fun _ k => XS.pop X835.here hx rfl (hb hby at_271) rfl rfl k) ?_
        have F872 := ((F762.keep Kq780).keep Kq835)
        have F873 := ((F763.keep Kq780).keep Kq835)
        have F874 := ((F765.keep Kq780).keep Kq835)
        have F875 := ((F766.keep Kq780).keep Kq835)
        have F876 := ((F767.keep Kq780).keep Kq835)
        have F877 := ((F769.keep Kq780).keep Kq835)
        have F878 := qk F834 Kq835 (allS (qx F833) (allS (qx F832) (allS (qx Et787) all0)))
        have F879 := qk (qk F771 Kq780 all0) Kq835 (allS (qx F833) (allS (qx F832) (allS (qx Et787) all0)))
        have F880 := qk (qk F772 Kq780 all0) Kq835 (allS (qx F833) (allS (qx F832) (allS (qx Et787) all0)))
        exact J872 _ _ _ (own_mono X835 (by decide) (by decide)) rfl N835 K835 Z835 F872 F873 F842 F874 F875 F876 F837 F877 F878 F879 F880 F870 Kf835 F871 M857 trivial
     by_cases c659 : (v2 &&& (8 : Int32)) = (0 : Int32)
     ·skip
      refine qb (fun _ k => XS.ifYes X637.here hx rfl (pc0 := 235) (pc' := 251) rfl (hb hby at_235) rfl ((if0 _ _).trans (teq c659).1) (by decide) (by decide) k) ?_
      show qG p e below _ (T635.setTop (mkF m 251 #[vI p0, vI p1, vI p2, vI p3, vI p4, vI p5, vI v1, vI v2, vR b4, vR b21, vR b38, vR b55, vR b72, vR b115, vR b120, vR b125, vR b130, vR b135, vR b289, .unset, .unset, .unset, .unset, .unset, .unset, .unset] []))
      have M660 : own_Mp Z h640 b289 (own_K b4 b21 b38 b55 b72) (own_C v2 4) (own_X p1 p2 p3 p4 p5) (4 : Int) h0.size := own_Mp.skip F657 (own_Cn 3 c659) (by decide)
      exact J753 _ _ _ (own_mono X637 (by decide) (by decide)) e638 N639 K641 Z642 F643 F644 F645 F646 F647 F648 F649 F650 F651 F652 F653 F654 F655 F656 M660 trivial
     ·skip
      refine qb (fun _ k => XS.ifNo X637.here hx rfl (hb hby at_235) rfl ((if0 _ _).trans (feq c659).1) k) ?_
      show qG p e below _ (T635.setTop (mkF m 238 #[vI p0, vI p1, vI p2, vI p3, vI p4, vI p5, vI v1, vI v2, vR b4, vR b21, vR b38, vR b55, vR b72, vR b115, vR b120, vR b125, vR b130, vR b135, vR b289, .unset, .unset, .unset, .unset, .unset, .unset, .unset] []))
      refine qb (fun _ k => XS.aload X637.here hx rfl (hb hby at_238) rfl rfl k) ?_
      refine qb (fun _ k => XS.aload X637.here hx rfl (hb hby at_240) rfl rfl k) ?_
      refine qb (fun _ k => XS.iload X637.here hx rfl (hb hby at_242) rfl k) ?_
      obtain ⟨_, T661, Lc661, X661, hQ661, st661⟩ := own_cS X637 hx hZ hown hml (rmivo l Z A0 hw [] f_CA k_CA fn_CA p4 h640 n0 Z642 F652 F653 F654) (hwd 310 rfl) (hwd 277 rfl) (hwd 278 rfl) (hwd 279 rfl) (by decide) pd_276 e638 (g := (mkF m 244 #[vI p0, vI p1, vI p2, vI p3, vI p4, vI p5, vI v1, vI v2, vR b4, vR b21, vR b38, vR b55, vR b72, vR b115, vR b120, vR b125, vR b130, vR b135, vR b289, .unset, .unset, .unset, .unset, .unset, .unset, .unset] [(.int p4), (.ref b55), (.ref b289)])) (rest := [(.ref b55), (.ref b289)]) rfl rfl rfl rfl (hb hby at_244) rfl
      obtain ⟨b662, rfl, Nq661, Kq661, F663, F664, hp665⟩ := hQ661
      have N661 := Fr.app N639 Nq661
      have K661 : Keep h0 T661.heap [] := K641.trans Kq661 (all0)
      have Z661 := ql Z642 Kq661.1
      refine qb st661 ?_
      show qG p e below _ (T661.setTop (mkF m 247 #[vI p0, vI p1, vI p2, vI p3, vI p4, vI p5, vI v1, vI v2, vR b4, vR b21, vR b38, vR b55, vR b72, vR b115, vR b120, vR b125, vR b130, vR b135, vR b289, .unset, .unset, .unset, .unset, .unset, .unset, .unset] [(.ref b662), (.ref b55), (.ref b289)]))
      have F666 := (F655.keep Kq661 all0)
      have Kx667 := F666.2 3 (by decide)
      obtain ⟨tk667, kk667, fk667, hv667, kE667, kc667, kv667, kh667, kz667, ktE667, ka667, hh667, hx667⟩ := Kx667
      have hn667 : ¬ (((fk667 0) &&& (255 : Int32)) = (0 : Int32)) := own_chn hx667 (by decide)
      have hb667 := own_ixb hx667 (by decide)
      have F669 := (F657.keep Kq661 all0)
      obtain ⟨-, ⟨lf668, Fl668⟩, Fv668, M0668 | ⟨tm668, km668, gm668, sm668, Mt668⟩⟩ := F669
      ·skip
       show qG p e below _ (T661.setTop (mkF m 247 #[vI p0, vI p1, vI p2, vI p3, vI p4, vI p5, vI v1, vI v2, vR b4, vR b21, vR b38, vR b55, vR b72, vR b115, vR b120, vR b125, vR b130, vR b135, vR b289, .unset, .unset, .unset, .unset, .unset, .unset, .unset] [(.ref b662), (.ref b55), (.ref b289)]))
       have F670 := (F645.keep Kq661)
       have F671 := (F648.keep Kq661)
       have F672 := qk F651 Kq661 all0
       obtain ⟨_, T673, Lc673, X673, hQ673, st673⟩ := own_cV X661 hx hZ hown hml (rmputN l Z A0 hw [] lf668 tk667 kk667 fk667 hv667 f_CS b289 b55 b662 T661.heap n0 Z661 F670 M0668.1 M0668.2.1 M0668.2.2.1 M0668.2.2.2.1 Fl668 Fv668 F671 kc667 kv667 kh667 kz667 ka667 hh667 hn667 F672 hn_CS hp58 ge_b289 hb667) (hwd 311 rfl) (hwd 313 rfl) (hwd 68 rfl) (hwd 315 rfl) (by decide) pd_283 rfl (hwd 312 rfl) (hwd 314 rfl) F670 (g := (mkF m 247 #[vI p0, vI p1, vI p2, vI p3, vI p4, vI p5, vI v1, vI v2, vR b4, vR b21, vR b38, vR b55, vR b72, vR b115, vR b120, vR b125, vR b130, vR b135, vR b289, .unset, .unset, .unset, .unset, .unset, .unset, .unset] [(.ref b662), (.ref b55), (.ref b289)])) (rest := []) rfl rfl rfl rfl (hb hby at_247) rfl
       obtain ⟨b674, b675, b676, rfl, Nq673, Kq673, F677, F678, F679, F680, F681, F682, F683, F684, F685, F686, F687, F688, hp689, hp690, F691, F692, hp693, hp694, hp695, F696, F697, F698, F699, F700, hp701⟩ := hQ673
       have N673 := Fr.app N661 Nq673
       have K673 : Keep h0 T673.heap [] := K661.trans Kq673 ((allS (Or.inr sz_b55) (allS (Or.inr sz_b289) all0)))
       have Z673 := ql Z661 Kq673.1
       have sz_b674 := ql K661.1 hp690
       have sz_b676 := ql K661.1 hp695
       refine qb st673 ?_
       show qG p e below _ (T673.setTop (mkF m 250 #[vI p0, vI p1, vI p2, vI p3, vI p4, vI p5, vI v1, vI v2, vR b4, vR b21, vR b38, vR b55, vR b72, vR b115, vR b120, vR b125, vR b130, vR b135, vR b289, .unset, .unset, .unset, .unset, .unset, .unset, .unset] [.null]))
       have F703 := (ktE667.keep Kq673)
       have nq704 := ne_exa F703 F682 (by decide)
       have nq705 := ne_exa F703 F677 (by decide)
       have F706 := (ka667.keep Kq673 (ninS nq705 (ninS nq704 nin0)))
       have Kf673 : own_Ks Z T673.heap (own_K b4 b21 b38 b55 b72) := own_Ks.put (i := 3) F666 Kq673 (by decide) rfl ((allS (Or.inl rfl) (allS (Or.inr (qo (F645.keep Kq661) (by decide))) all0))) ⟨_, _, _, _, F677, F678, F679, F680, F681, F703, F706, Or.inr rfl, hx667⟩
       have Fh702 : Fld Z T673.heap b676 cND "hash" "I" (.int (own_ch 3)) := by have q := F697; rwa [own_hsx hx667 (by decide)] at q
       have F707 := (F663.keep Kq673)
       have nq708 := ne_exa F707 F682 (by decide)
       have nq709 := ne_exa F707 F677 (by decide)
       have F710 := (F664.keep Kq673 (ninS nq709 (ninS nq708 nin0)))
       have N702 : own_Nd Z T673.heap b676 (own_ch 3) b55 b662 ((own_X p1 p2 p3 p4 p5) 3) := ⟨F696, Fh702, F698, F699, F700, F707, F710⟩
       have Sn702 : own_Ss Z T673.heap (own_K b4 b21 b38 b55 b72) (own_C v2 4) (own_X p1 p2 p3 p4 p5) (qu (fun _ => Value.null) (((15 : Int32) &&& (((fk667 0) &&& (255 : Int32)) ^^^ ((((fk667 0) &&& (255 : Int32)).toUInt32 >>> ((16 : Int32) &&& 31).toUInt32).toInt32)))).toNatClampNeg (.ref b676)) := own_Ss.put (i := 3) (own_Ss.zero (Z := Z) (h := T673.heap) (keys := (own_K b4 b21 b38 b55 b72)) (X := (own_X p1 p2 p3 p4 p5)) (C := own_C v2 3) M0668.2.2.2.2) (by decide) (own_ixx hx667 (by decide)) (own_Cs 3) (own_Ci 3 c659) N702
       have ct702 := own_szN (nd := b676) (own_ixx hx667 (by decide)) (by decide)
       have M702 : own_Mp Z T673.heap b289 (own_K b4 b21 b38 b55 b72) (own_C v2 4) (own_X p1 p2 p3 p4 p5) (4 : Int) h0.size := ⟨F682, ⟨_, F687⟩, F688, Or.inr ⟨_, _, _, _, F683, F684, F685, F686, F691, F692, hp693, Sn702, ct702.1, (by decide), sz_b674⟩⟩
       have F711 := ((F654.keep Kq661 all0).keep Kq673 (allS (qo (F648.keep Kq661) (by decide)) (allS (qo (F645.keep Kq661) (by decide)) all0)))
       have F712 := ((F656.keep Kq661 all0).keep Kq673 (allS (qo (F648.keep Kq661) (by decide)) (allS (qo (F645.keep Kq661) (by decide)) all0)))
       refine qb (fun _ k => XS.pop X673.here hx rfl (hb hby at_250) rfl rfl k) ?_
       have F713 := ((F643.keep Kq661).keep Kq673)
       have F714 := ((F644.keep Kq661).keep Kq673)
       have F715 := ((F646.keep Kq661).keep Kq673)
       have F716 := ((F647.keep Kq661).keep Kq673)
       have F717 := ((F649.keep Kq661).keep Kq673)
       have F718 := ((F650.keep Kq661).keep Kq673)
       have F719 := qk F672 Kq673 (allS (qx F671) (allS (qx F670) all0))
       have F720 := qk (qk F652 Kq661 all0) Kq673 (allS (qx F671) (allS (qx F670) all0))
       have F721 := qk (qk F653 Kq661 all0) Kq673 (allS (qx F671) (allS (qx F670) all0))
       exact J753 _ _ _ X673 rfl N673 K673 Z673 F713 F714 F682 F715 F716 F677 F717 F718 F719 F720 F721 F711 Kf673 F712 M702 trivial
      ·skip
       obtain ⟨Ft668, Fs668, Fm668, Fh668, Et668, Vt668, Ov668, Ss668, c1668, c2668, c3668⟩ := Mt668
       have ge668 : n0 ≤ tm668 := ql Z0 c3668
       have hu668 : (gm668 (((15 : Int32) &&& (((fk667 0) &&& (255 : Int32)) ^^^ ((((fk667 0) &&& (255 : Int32)).toUInt32 >>> ((16 : Int32) &&& 31).toUInt32).toInt32)))).toNatClampNeg) = .null := by rw [own_ixx hx667 (by decide)]; exact own_SlN (Ss668.2 3 (by decide)) (fun h => Nat.lt_irrefl _ h.1)
       have hp668 : ¬ ((12 : Int32) < (sm668 + (1 : Int32))) := own_pt c2668 (by decide)
       show qG p e below _ (T661.setTop (mkF m 247 #[vI p0, vI p1, vI p2, vI p3, vI p4, vI p5, vI v1, vI v2, vR b4, vR b21, vR b38, vR b55, vR b72, vR b115, vR b120, vR b125, vR b130, vR b135, vR b289, .unset, .unset, .unset, .unset, .unset, .unset, .unset] [(.ref b662), (.ref b55), (.ref b289)]))
       have F713 := (F645.keep Kq661)
       have F714 := (F648.keep Kq661)
       have F715 := qk F651 Kq661 all0
       obtain ⟨_, T716, Lc716, X716, hQ716, st716⟩ := own_cV X661 hx hZ hown hml (rmputT l Z A0 hw [] lf668 tm668 sm668 km668 gm668 tk667 kk667 fk667 hv667 f_CS b289 b55 b662 T661.heap n0 Z661 F713 Ft668 Fs668 Fm668 Fh668 Fl668 Fv668 Vt668 Ov668 F714 kc667 kv667 kh667 kz667 ka667 hh667 hn667 F715 hn_CS hu668 hp58 hb667 ge668 ge_b289 hp668) (hwd 311 rfl) (hwd 313 rfl) (hwd 68 rfl) (hwd 315 rfl) (by decide) pd_283 rfl (hwd 312 rfl) (hwd 314 rfl) F713 (g := (mkF m 247 #[vI p0, vI p1, vI p2, vI p3, vI p4, vI p5, vI v1, vI v2, vR b4, vR b21, vR b38, vR b55, vR b72, vR b115, vR b120, vR b125, vR b130, vR b135, vR b289, .unset, .unset, .unset, .unset, .unset, .unset, .unset] [(.ref b662), (.ref b55), (.ref b289)])) (rest := []) rfl rfl rfl rfl (hb hby at_247) rfl
       obtain ⟨b717, rfl, Nq716, Kq716, F718, F719, F720, F721, F722, F723, F724, F725, F726, F727, F728, F729, F730, hp731, hp732, F733, F734, F735, F736, F737⟩ := hQ716
       have N716 := Fr.app N661 Nq716
       have K716 : Keep h0 T716.heap [] := K661.trans Kq716 ((allS (Or.inr sz_b55) (allS (Or.inr sz_b289) (allS (Or.inr c3668) all0))))
       have Z716 := ql Z661 Kq716.1
       have sz_b717 := ql K661.1 hp732
       refine qb st716 ?_
       show qG p e below _ (T716.setTop (mkF m 250 #[vI p0, vI p1, vI p2, vI p3, vI p4, vI p5, vI v1, vI v2, vR b4, vR b21, vR b38, vR b55, vR b72, vR b115, vR b120, vR b125, vR b130, vR b135, vR b289, .unset, .unset, .unset, .unset, .unset, .unset, .unset] [.null]))
       have F739 := (ktE667.keep Kq716)
       have F741 := (Et668.keep Kq716)
       have nq740 := ne_exa F739 F741 (by decide)
       have nq742 := ne_exa F739 F723 (by decide)
       have nq743 := ne_exa F739 F718 (by decide)
       have F744 := (ka667.keep Kq716 (ninS nq743 (ninS nq742 (ninS nq740 nin0))))
       have Kf716 : own_Ks Z T716.heap (own_K b4 b21 b38 b55 b72) := own_Ks.put (i := 3) F666 Kq716 (by decide) rfl ((allS (Or.inl rfl) (allS (Or.inr (qo (F645.keep Kq661) (by decide))) (allS (Or.inr (qo Et668 (by decide))) all0)))) ⟨_, _, _, _, F718, F719, F720, F721, F722, F739, F744, Or.inr rfl, hx667⟩
       have Fh738 : Fld Z T716.heap b717 cND "hash" "I" (.int (own_ch 3)) := by have q := F734; rwa [own_hsx hx667 (by decide)] at q
       have F745 := (F663.keep Kq716)
       have nq746 := ne_exa F745 F741 (by decide)
       have nq747 := ne_exa F745 F723 (by decide)
       have nq748 := ne_exa F745 F718 (by decide)
       have F749 := (F664.keep Kq716 (ninS nq748 (ninS nq747 (ninS nq746 nin0))))
       have N738 : own_Nd Z T716.heap b717 (own_ch 3) b55 b662 ((own_X p1 p2 p3 p4 p5) 3) := ⟨F733, Fh738, F735, F736, F737, F745, F749⟩
       have F750 := (Ss668.keep Kq716 (allS (qo (F648.keep Kq661) (by decide)) (allS (qo (F645.keep Kq661) (by decide)) (allS (qo Et668 (by decide)) all0))))
       have Sn738 : own_Ss Z T716.heap (own_K b4 b21 b38 b55 b72) (own_C v2 4) (own_X p1 p2 p3 p4 p5) (qu gm668 (((15 : Int32) &&& (((fk667 0) &&& (255 : Int32)) ^^^ ((((fk667 0) &&& (255 : Int32)).toUInt32 >>> ((16 : Int32) &&& 31).toUInt32).toInt32)))).toNatClampNeg (.ref b717)) := own_Ss.put (i := 3) F750 (by decide) (own_ixx hx667 (by decide)) (own_Cs 3) (own_Ci 3 c659) N738
       have ct738 := own_szT (nd := b717) c1668 c2668 (by decide) hu668 (own_ixx hx667 (by decide)) (by decide)
       have M738 : own_Mp Z T716.heap b289 (own_K b4 b21 b38 b55 b72) (own_C v2 4) (own_X p1 p2 p3 p4 p5) (4 : Int) h0.size := ⟨F723, ⟨_, F728⟩, F729, Or.inr ⟨_, _, _, _, F724, F725, F726, F727, F741, F730, Ov668, Sn738, ct738.1, ct738.2, c3668⟩⟩
       have F751 := ((F654.keep Kq661 all0).keep Kq716 (allS (qo (F648.keep Kq661) (by decide)) (allS (qo (F645.keep Kq661) (by decide)) (allS (qo Et668 (by decide)) all0))))
       have F752 := ((F656.keep Kq661 all0).keep Kq716 (allS (qo (F648.keep Kq661) (by decide)) (allS (qo (F645.keep Kq661) (by decide)) (allS (qo Et668 (by decide)) all0))))
       refine qb (fun _ k => XS.pop X716.here hx rfl (hb hby at_250) rfl rfl k) ?_
       have F753 := ((F643.keep Kq661).keep Kq716)
       have F754 := ((F644.keep Kq661).keep Kq716)
       have F755 := ((F646.keep Kq661).keep Kq716)
       have F756 := ((F647.keep Kq661).keep Kq716)
       have F757 := ((F649.keep Kq661).keep Kq716)
       have F758 := ((F650.keep Kq661).keep Kq716)
       have F759 := qk F715 Kq716 (allS (qx F714) (allS (qx F713) (allS (qx Et668) all0)))
       have F760 := qk (qk F652 Kq661 all0) Kq716 (allS (qx F714) (allS (qx F713) (allS (qx Et668) all0)))
       have F761 := qk (qk F653 Kq661 all0) Kq716 (allS (qx F714) (allS (qx F713) (allS (qx Et668) all0)))
       exact J753 _ _ _ (own_mono X716 (by decide) (by decide)) rfl N716 K716 Z716 F753 F754 F723 F755 F756 F718 F757 F758 F759 F760 F761 F751 Kf716 F752 M738 trivial
    by_cases c540 : (v2 &&& (4 : Int32)) = (0 : Int32)
    ·skip
     refine qb (fun _ k => XS.ifYes X518.here hx rfl (pc0 := 215) (pc' := 230) rfl (hb hby at_215) rfl ((if0 _ _).trans (teq c540).1) (by decide) (by decide) k) ?_
     show qG p e below _ (T516.setTop (mkF m 230 #[vI p0, vI p1, vI p2, vI p3, vI p4, vI p5, vI v1, vI v2, vR b4, vR b21, vR b38, vR b55, vR b72, vR b115, vR b120, vR b125, vR b130, vR b135, vR b289, .unset, .unset, .unset, .unset, .unset, .unset, .unset] []))
     have M541 : own_Mp Z h521 b289 (own_K b4 b21 b38 b55 b72) (own_C v2 3) (own_X p1 p2 p3 p4 p5) (3 : Int) h0.size := own_Mp.skip F538 (own_Cn 2 c540) (by decide)
     exact J634 _ _ _ (own_mono X518 (by decide) (by decide)) e519 N520 K522 Z523 F524 F525 F526 F527 F528 F529 F530 F531 F532 F533 F534 F535 F536 F537 M541 trivial
    ·skip
     refine qb (fun _ k => XS.ifNo X518.here hx rfl (hb hby at_215) rfl ((if0 _ _).trans (feq c540).1) k) ?_
     show qG p e below _ (T516.setTop (mkF m 218 #[vI p0, vI p1, vI p2, vI p3, vI p4, vI p5, vI v1, vI v2, vR b4, vR b21, vR b38, vR b55, vR b72, vR b115, vR b120, vR b125, vR b130, vR b135, vR b289, .unset, .unset, .unset, .unset, .unset, .unset, .unset] []))
     refine qb (fun _ k => XS.aload X518.here hx rfl (hb hby at_218) rfl rfl k) ?_
     refine qb (fun _ k => XS.aload X518.here hx rfl (hb hby at_220) rfl rfl k) ?_
     refine qb (fun _ k => XS.iloadN X518.here hx rfl (hb hby at_222) rfl k) ?_
     obtain ⟨_, T542, Lc542, X542, hQ542, st542⟩ := own_cS X518 hx hZ hown hml (rmivo l Z A0 hw [] f_CA k_CA fn_CA p3 h521 n0 Z523 F533 F534 F535) (hwd 310 rfl) (hwd 277 rfl) (hwd 278 rfl) (hwd 279 rfl) (by decide) pd_276 e519 (g := (mkF m 223 #[vI p0, vI p1, vI p2, vI p3, vI p4, vI p5, vI v1, vI v2, vR b4, vR b21, vR b38, vR b55, vR b72, vR b115, vR b120, vR b125, vR b130, vR b135, vR b289, .unset, .unset, .unset, .unset, .unset, .unset, .unset] [(.int p3), (.ref b38), (.ref b289)])) (rest := [(.ref b38), (.ref b289)]) rfl rfl rfl rfl (hb hby at_223) rfl
     obtain ⟨b543, rfl, Nq542, Kq542, F544, F545, hp546⟩ := hQ542
     have N542 := Fr.app N520 Nq542
     have K542 : Keep h0 T542.heap [] := K522.trans Kq542 (all0)
     have Z542 := ql Z523 Kq542.1
     refine qb st542 ?_
     show qG p e below _ (T542.setTop (mkF m 226 #[vI p0, vI p1, vI p2, vI p3, vI p4, vI p5, vI v1, vI v2, vR b4, vR b21, vR b38, vR b55, vR b72, vR b115, vR b120, vR b125, vR b130, vR b135, vR b289, .unset, .unset, .unset, .unset, .unset, .unset, .unset] [(.ref b543), (.ref b38), (.ref b289)]))
     have F547 := (F536.keep Kq542 all0)
     have Kx548 := F547.2 2 (by decide)
     obtain ⟨tk548, kk548, fk548, hv548, kE548, kc548, kv548, kh548, kz548, ktE548, ka548, hh548, hx548⟩ := Kx548
     have hn548 : ¬ (((fk548 0) &&& (255 : Int32)) = (0 : Int32)) := own_chn hx548 (by decide)
     have hb548 := own_ixb hx548 (by decide)
     have F550 := (F538.keep Kq542 all0)
     obtain ⟨-, ⟨lf549, Fl549⟩, Fv549, M0549 | ⟨tm549, km549, gm549, sm549, Mt549⟩⟩ := F550
     ·skip
      show qG p e below _ (T542.setTop (mkF m 226 #[vI p0, vI p1, vI p2, vI p3, vI p4, vI p5, vI v1, vI v2, vR b4, vR b21, vR b38, vR b55, vR b72, vR b115, vR b120, vR b125, vR b130, vR b135, vR b289, .unset, .unset, .unset, .unset, .unset, .unset, .unset] [(.ref b543), (.ref b38), (.ref b289)]))
      have F551 := (F526.keep Kq542)
      have F552 := (F527.keep Kq542)
      have F553 := qk F532 Kq542 all0
      obtain ⟨_, T554, Lc554, X554, hQ554, st554⟩ := own_cV X542 hx hZ hown hml (rmputN l Z A0 hw [] lf549 tk548 kk548 fk548 hv548 f_CS b289 b38 b543 T542.heap n0 Z542 F551 M0549.1 M0549.2.1 M0549.2.2.1 M0549.2.2.2.1 Fl549 Fv549 F552 kc548 kv548 kh548 kz548 ka548 hh548 hn548 F553 hn_CS hp41 ge_b289 hb548) (hwd 311 rfl) (hwd 313 rfl) (hwd 68 rfl) (hwd 315 rfl) (by decide) pd_283 rfl (hwd 312 rfl) (hwd 314 rfl) F551 (g := (mkF m 226 #[vI p0, vI p1, vI p2, vI p3, vI p4, vI p5, vI v1, vI v2, vR b4, vR b21, vR b38, vR b55, vR b72, vR b115, vR b120, vR b125, vR b130, vR b135, vR b289, .unset, .unset, .unset, .unset, .unset, .unset, .unset] [(.ref b543), (.ref b38), (.ref b289)])) (rest := []) rfl rfl rfl rfl (hb hby at_226) rfl
      obtain ⟨b555, b556, b557, rfl, Nq554, Kq554, F558, F559, F560, F561, F562, F563, F564, F565, F566, F567, F568, F569, hp570, hp571, F572, F573, hp574, hp575, hp576, F577, F578, F579, F580, F581, hp582⟩ := hQ554
      have N554 := Fr.app N542 Nq554
      have K554 : Keep h0 T554.heap [] := K542.trans Kq554 ((allS (Or.inr sz_b38) (allS (Or.inr sz_b289) all0)))
      have Z554 := ql Z542 Kq554.1
      have sz_b555 := ql K542.1 hp571
      have sz_b557 := ql K542.1 hp576
      refine qb st554 ?_
      show qG p e below _ (T554.setTop (mkF m 229 #[vI p0, vI p1, vI p2, vI p3, vI p4, vI p5, vI v1, vI v2, vR b4, vR b21, vR b38, vR b55, vR b72, vR b115, vR b120, vR b125, vR b130, vR b135, vR b289, .unset, .unset, .unset, .unset, .unset, .unset, .unset] [.null]))
      have F584 := (ktE548.keep Kq554)
      have nq585 := ne_exa F584 F563 (by decide)
      have nq586 := ne_exa F584 F558 (by decide)
      have F587 := (ka548.keep Kq554 (ninS nq586 (ninS nq585 nin0)))
      have Kf554 : own_Ks Z T554.heap (own_K b4 b21 b38 b55 b72) := own_Ks.put (i := 2) F547 Kq554 (by decide) rfl ((allS (Or.inl rfl) (allS (Or.inr (qo (F526.keep Kq542) (by decide))) all0))) ⟨_, _, _, _, F558, F559, F560, F561, F562, F584, F587, Or.inr rfl, hx548⟩
      have Fh583 : Fld Z T554.heap b557 cND "hash" "I" (.int (own_ch 2)) := by have q := F578; rwa [own_hsx hx548 (by decide)] at q
      have F588 := (F544.keep Kq554)
      have nq589 := ne_exa F588 F563 (by decide)
      have nq590 := ne_exa F588 F558 (by decide)
      have F591 := (F545.keep Kq554 (ninS nq590 (ninS nq589 nin0)))
      have N583 : own_Nd Z T554.heap b557 (own_ch 2) b38 b543 ((own_X p1 p2 p3 p4 p5) 2) := ⟨F577, Fh583, F579, F580, F581, F588, F591⟩
      have Sn583 : own_Ss Z T554.heap (own_K b4 b21 b38 b55 b72) (own_C v2 3) (own_X p1 p2 p3 p4 p5) (qu (fun _ => Value.null) (((15 : Int32) &&& (((fk548 0) &&& (255 : Int32)) ^^^ ((((fk548 0) &&& (255 : Int32)).toUInt32 >>> ((16 : Int32) &&& 31).toUInt32).toInt32)))).toNatClampNeg (.ref b557)) := own_Ss.put (i := 2) (own_Ss.zero (Z := Z) (h := T554.heap) (keys := (own_K b4 b21 b38 b55 b72)) (X := (own_X p1 p2 p3 p4 p5)) (C := own_C v2 2) M0549.2.2.2.2) (by decide) (own_ixx hx548 (by decide)) (own_Cs 2) (own_Ci 2 c540) N583
      have ct583 := own_szN (nd := b557) (own_ixx hx548 (by decide)) (by decide)
      have M583 : own_Mp Z T554.heap b289 (own_K b4 b21 b38 b55 b72) (own_C v2 3) (own_X p1 p2 p3 p4 p5) (3 : Int) h0.size := ⟨F563, ⟨_, F568⟩, F569, Or.inr ⟨_, _, _, _, F564, F565, F566, F567, F572, F573, hp574, Sn583, ct583.1, (by decide), sz_b555⟩⟩
      have F592 := ((F535.keep Kq542 all0).keep Kq554 (allS (qo (F527.keep Kq542) (by decide)) (allS (qo (F526.keep Kq542) (by decide)) all0)))
      have F593 := ((F537.keep Kq542 all0).keep Kq554 (allS (qo (F527.keep Kq542) (by decide)) (allS (qo (F526.keep Kq542) (by decide)) all0)))
      refine qb (fun _ k => XS.pop X554.here hx rfl (hb hby at_229) rfl rfl k) ?_
      have F594 := ((F524.keep Kq542).keep Kq554)
      have F595 := ((F525.keep Kq542).keep Kq554)
      have F596 := ((F528.keep Kq542).keep Kq554)
      have F597 := ((F529.keep Kq542).keep Kq554)
      have F598 := ((F530.keep Kq542).keep Kq554)
      have F599 := ((F531.keep Kq542).keep Kq554)
      have F600 := qk F553 Kq554 (allS (qx F552) (allS (qx F551) all0))
      have F601 := qk (qk F533 Kq542 all0) Kq554 (allS (qx F552) (allS (qx F551) all0))
      have F602 := qk (qk F534 Kq542 all0) Kq554 (allS (qx F552) (allS (qx F551) all0))
      exact J634 _ _ _ X554 rfl N554 K554 Z554 F594 F595 F563 F558 F596 F597 F598 F599 F600 F601 F602 F592 Kf554 F593 M583 trivial
     ·skip
      obtain ⟨Ft549, Fs549, Fm549, Fh549, Et549, Vt549, Ov549, Ss549, c1549, c2549, c3549⟩ := Mt549
      have ge549 : n0 ≤ tm549 := ql Z0 c3549
      have hu549 : (gm549 (((15 : Int32) &&& (((fk548 0) &&& (255 : Int32)) ^^^ ((((fk548 0) &&& (255 : Int32)).toUInt32 >>> ((16 : Int32) &&& 31).toUInt32).toInt32)))).toNatClampNeg) = .null := by rw [own_ixx hx548 (by decide)]; exact own_SlN (Ss549.2 2 (by decide)) (fun h => Nat.lt_irrefl _ h.1)
      have hp549 : ¬ ((12 : Int32) < (sm549 + (1 : Int32))) := own_pt c2549 (by decide)
      show qG p e below _ (T542.setTop (mkF m 226 #[vI p0, vI p1, vI p2, vI p3, vI p4, vI p5, vI v1, vI v2, vR b4, vR b21, vR b38, vR b55, vR b72, vR b115, vR b120, vR b125, vR b130, vR b135, vR b289, .unset, .unset, .unset, .unset, .unset, .unset, .unset] [(.ref b543), (.ref b38), (.ref b289)]))
      have F594 := (F526.keep Kq542)
      have F595 := (F527.keep Kq542)
      have F596 := qk F532 Kq542 all0
      obtain ⟨_, T597, Lc597, X597, hQ597, st597⟩ := own_cV X542 hx hZ hown hml (rmputT l Z A0 hw [] lf549 tm549 sm549 km549 gm549 tk548 kk548 fk548 hv548 f_CS b289 b38 b543 T542.heap n0 Z542 F594 Ft549 Fs549 Fm549 Fh549 Fl549 Fv549 Vt549 Ov549 F595 kc548 kv548 kh548 kz548 ka548 hh548 hn548 F596 hn_CS hu549 hp41 hb548 ge549 ge_b289 hp549) (hwd 311 rfl) (hwd 313 rfl) (hwd 68 rfl) (hwd 315 rfl) (by decide) pd_283 rfl (hwd 312 rfl) (hwd 314 rfl) F594 (g := (mkF m 226 #[vI p0, vI p1, vI p2, vI p3, vI p4, vI p5, vI v1, vI v2, vR b4, vR b21, vR b38, vR b55, vR b72, vR b115, vR b120, vR b125, vR b130, vR b135, vR b289, .unset, .unset, .unset, .unset, .unset, .unset, .unset] [(.ref b543), (.ref b38), (.ref b289)])) (rest := []) rfl rfl rfl rfl (hb hby at_226) rfl
      obtain ⟨b598, rfl, Nq597, Kq597, F599, F600, F601, F602, F603, F604, F605, F606, F607, F608, F609, F610, F611, hp612, hp613, F614, F615, F616, F617, F618⟩ := hQ597
      have N597 := Fr.app N542 Nq597
      have K597 : Keep h0 T597.heap [] := K542.trans Kq597 ((allS (Or.inr sz_b38) (allS (Or.inr sz_b289) (allS (Or.inr c3549) all0))))
      have Z597 := ql Z542 Kq597.1
      have sz_b598 := ql K542.1 hp613
      refine qb st597 ?_
      show qG p e below _ (T597.setTop (mkF m 229 #[vI p0, vI p1, vI p2, vI p3, vI p4, vI p5, vI v1, vI v2, vR b4, vR b21, vR b38, vR b55, vR b72, vR b115, vR b120, vR b125, vR b130, vR b135, vR b289, .unset, .unset, .unset, .unset, .unset, .unset, .unset] [.null]))
      have F620 := (ktE548.keep Kq597)
      have F622 := (Et549.keep Kq597)
      have nq621 := ne_exa F620 F622 (by decide)
      have nq623 := ne_exa F620 F604 (by decide)
      have nq624 := ne_exa F620 F599 (by decide)
      have F625 := (ka548.keep Kq597 (ninS nq624 (ninS nq623 (ninS nq621 nin0))))
      have Kf597 : own_Ks Z T597.heap (own_K b4 b21 b38 b55 b72) := own_Ks.put (i := 2) F547 Kq597 (by decide) rfl ((allS (Or.inl rfl) (allS (Or.inr (qo (F526.keep Kq542) (by decide))) (allS (Or.inr (qo Et549 (by decide))) all0)))) ⟨_, _, _, _, F599, F600, F601, F602, F603, F620, F625, Or.inr rfl, hx548⟩
      have Fh619 : Fld Z T597.heap b598 cND "hash" "I" (.int (own_ch 2)) := by have q := F615; rwa [own_hsx hx548 (by decide)] at q
      have F626 := (F544.keep Kq597)
      have nq627 := ne_exa F626 F622 (by decide)
      have nq628 := ne_exa F626 F604 (by decide)
      have nq629 := ne_exa F626 F599 (by decide)
      have F630 := (F545.keep Kq597 (ninS nq629 (ninS nq628 (ninS nq627 nin0))))
      have N619 : own_Nd Z T597.heap b598 (own_ch 2) b38 b543 ((own_X p1 p2 p3 p4 p5) 2) := ⟨F614, Fh619, F616, F617, F618, F626, F630⟩
      have F631 := (Ss549.keep Kq597 (allS (qo (F527.keep Kq542) (by decide)) (allS (qo (F526.keep Kq542) (by decide)) (allS (qo Et549 (by decide)) all0))))
      have Sn619 : own_Ss Z T597.heap (own_K b4 b21 b38 b55 b72) (own_C v2 3) (own_X p1 p2 p3 p4 p5) (qu gm549 (((15 : Int32) &&& (((fk548 0) &&& (255 : Int32)) ^^^ ((((fk548 0) &&& (255 : Int32)).toUInt32 >>> ((16 : Int32) &&& 31).toUInt32).toInt32)))).toNatClampNeg (.ref b598)) := own_Ss.put (i := 2) F631 (by decide) (own_ixx hx548 (by decide)) (own_Cs 2) (own_Ci 2 c540) N619
      have ct619 := own_szT (nd := b598) c1549 c2549 (by decide) hu549 (own_ixx hx548 (by decide)) (by decide)
      have M619 : own_Mp Z T597.heap b289 (own_K b4 b21 b38 b55 b72) (own_C v2 3) (own_X p1 p2 p3 p4 p5) (3 : Int) h0.size := ⟨F604, ⟨_, F609⟩, F610, Or.inr ⟨_, _, _, _, F605, F606, F607, F608, F622, F611, Ov549, Sn619, ct619.1, ct619.2, c3549⟩⟩
      have F632 := ((F535.keep Kq542 all0).keep Kq597 (allS (qo (F527.keep Kq542) (by decide)) (allS (qo (F526.keep Kq542) (by decide)) (allS (qo Et549 (by decide)) all0))))
      have F633 := ((F537.keep Kq542 all0).keep Kq597 (allS (qo (F527.keep Kq542) (by decide)) (allS (qo (F526.keep Kq542) (by decide)) (allS (qo Et549 (by decide)) all0))))
      refine qb (fun _ k => XS.pop X597.here hx rfl (hb hby at_229) rfl rfl k) ?_
      have F634 := ((F524.keep Kq542).keep Kq597)
      have F635 := ((F525.keep Kq542).keep Kq597)
      have F636 := ((F528.keep Kq542).keep Kq597)
      have F637 := ((F529.keep Kq542).keep Kq597)
      have F638 := ((F530.keep Kq542).keep Kq597)
      have F639 := ((F531.keep Kq542).keep Kq597)
      have F640 := qk F596 Kq597 (allS (qx F595) (allS (qx F594) (allS (qx Et549) all0)))
      have F641 := qk (qk F533 Kq542 all0) Kq597 (allS (qx F595) (allS (qx F594) (allS (qx Et549) all0)))
      have F642 := qk (qk F534 Kq542 all0) Kq597 (allS (qx F595) (allS (qx F594) (allS (qx Et549) all0)))
      exact J634 _ _ _ (own_mono X597 (by decide) (by decide)) rfl N597 K597 Z597 F634 F635 F604 F599 F636 F637 F638 F639 F640 F641 F642 F632 Kf597 F633 M619 trivial
   by_cases c421 : (v2 &&& (2 : Int32)) = (0 : Int32)
   ·skip
    refine qb (fun _ k => XS.ifYes X399.here hx rfl (pc0 := 196) (pc' := 211) rfl (hb hby at_196) rfl ((if0 _ _).trans (teq c421).1) (by decide) (by decide) k) ?_
    show qG p e below _ (T397.setTop (mkF m 211 #[vI p0, vI p1, vI p2, vI p3, vI p4, vI p5, vI v1, vI v2, vR b4, vR b21, vR b38, vR b55, vR b72, vR b115, vR b120, vR b125, vR b130, vR b135, vR b289, .unset, .unset, .unset, .unset, .unset, .unset, .unset] []))
    have M422 : own_Mp Z h402 b289 (own_K b4 b21 b38 b55 b72) (own_C v2 2) (own_X p1 p2 p3 p4 p5) (2 : Int) h0.size := own_Mp.skip F419 (own_Cn 1 c421) (by decide)
    exact J515 _ _ _ (own_mono X399 (by decide) (by decide)) e400 N401 K403 Z404 F405 F406 F407 F408 F409 F410 F411 F412 F413 F414 F415 F416 F417 F418 M422 trivial
   ·skip
    refine qb (fun _ k => XS.ifNo X399.here hx rfl (hb hby at_196) rfl ((if0 _ _).trans (feq c421).1) k) ?_
    show qG p e below _ (T397.setTop (mkF m 199 #[vI p0, vI p1, vI p2, vI p3, vI p4, vI p5, vI v1, vI v2, vR b4, vR b21, vR b38, vR b55, vR b72, vR b115, vR b120, vR b125, vR b130, vR b135, vR b289, .unset, .unset, .unset, .unset, .unset, .unset, .unset] []))
    refine qb (fun _ k => XS.aload X399.here hx rfl (hb hby at_199) rfl rfl k) ?_
    refine qb (fun _ k => XS.aload X399.here hx rfl (hb hby at_201) rfl rfl k) ?_
    refine qb (fun _ k => XS.iloadN X399.here hx rfl (hb hby at_203) rfl k) ?_
    obtain ⟨_, T423, Lc423, X423, hQ423, st423⟩ := own_cS X399 hx hZ hown hml (rmivo l Z A0 hw [] f_CA k_CA fn_CA p2 h402 n0 Z404 F414 F415 F416) (hwd 310 rfl) (hwd 277 rfl) (hwd 278 rfl) (hwd 279 rfl) (by decide) pd_276 e400 (g := (mkF m 204 #[vI p0, vI p1, vI p2, vI p3, vI p4, vI p5, vI v1, vI v2, vR b4, vR b21, vR b38, vR b55, vR b72, vR b115, vR b120, vR b125, vR b130, vR b135, vR b289, .unset, .unset, .unset, .unset, .unset, .unset, .unset] [(.int p2), (.ref b21), (.ref b289)])) (rest := [(.ref b21), (.ref b289)]) rfl rfl rfl rfl (hb hby at_204) rfl
    obtain ⟨b424, rfl, Nq423, Kq423, F425, F426, hp427⟩ := hQ423
    have N423 := Fr.app N401 Nq423
    have K423 : Keep h0 T423.heap [] := K403.trans Kq423 (all0)
    have Z423 := ql Z404 Kq423.1
    refine qb st423 ?_
    show qG p e below _ (T423.setTop (mkF m 207 #[vI p0, vI p1, vI p2, vI p3, vI p4, vI p5, vI v1, vI v2, vR b4, vR b21, vR b38, vR b55, vR b72, vR b115, vR b120, vR b125, vR b130, vR b135, vR b289, .unset, .unset, .unset, .unset, .unset, .unset, .unset] [(.ref b424), (.ref b21), (.ref b289)]))
    have F428 := (F417.keep Kq423 all0)
    have Kx429 := F428.2 1 (by decide)
    obtain ⟨tk429, kk429, fk429, hv429, kE429, kc429, kv429, kh429, kz429, ktE429, ka429, hh429, hx429⟩ := Kx429
    have hn429 : ¬ (((fk429 0) &&& (255 : Int32)) = (0 : Int32)) := own_chn hx429 (by decide)
    have hb429 := own_ixb hx429 (by decide)
    have F431 := (F419.keep Kq423 all0)
    obtain ⟨-, ⟨lf430, Fl430⟩, Fv430, M0430 | ⟨tm430, km430, gm430, sm430, Mt430⟩⟩ := F431
    ·skip
     show qG p e below _ (T423.setTop (mkF m 207 #[vI p0, vI p1, vI p2, vI p3, vI p4, vI p5, vI v1, vI v2, vR b4, vR b21, vR b38, vR b55, vR b72, vR b115, vR b120, vR b125, vR b130, vR b135, vR b289, .unset, .unset, .unset, .unset, .unset, .unset, .unset] [(.ref b424), (.ref b21), (.ref b289)]))
     have F432 := (F407.keep Kq423)
     have F433 := (F406.keep Kq423)
     have F434 := qk F413 Kq423 all0
     obtain ⟨_, T435, Lc435, X435, hQ435, st435⟩ := own_cV X423 hx hZ hown hml (rmputN l Z A0 hw [] lf430 tk429 kk429 fk429 hv429 f_CS b289 b21 b424 T423.heap n0 Z423 F432 M0430.1 M0430.2.1 M0430.2.2.1 M0430.2.2.2.1 Fl430 Fv430 F433 kc429 kv429 kh429 kz429 ka429 hh429 hn429 F434 hn_CS hp24 ge_b289 hb429) (hwd 311 rfl) (hwd 313 rfl) (hwd 68 rfl) (hwd 315 rfl) (by decide) pd_283 rfl (hwd 312 rfl) (hwd 314 rfl) F432 (g := (mkF m 207 #[vI p0, vI p1, vI p2, vI p3, vI p4, vI p5, vI v1, vI v2, vR b4, vR b21, vR b38, vR b55, vR b72, vR b115, vR b120, vR b125, vR b130, vR b135, vR b289, .unset, .unset, .unset, .unset, .unset, .unset, .unset] [(.ref b424), (.ref b21), (.ref b289)])) (rest := []) rfl rfl rfl rfl (hb hby at_207) rfl
     obtain ⟨b436, b437, b438, rfl, Nq435, Kq435, F439, F440, F441, F442, F443, F444, F445, F446, F447, F448, F449, F450, hp451, hp452, F453, F454, hp455, hp456, hp457, F458, F459, F460, F461, F462, hp463⟩ := hQ435
     have N435 := Fr.app N423 Nq435
     have K435 : Keep h0 T435.heap [] := K423.trans Kq435 ((allS (Or.inr sz_b21) (allS (Or.inr sz_b289) all0)))
     have Z435 := ql Z423 Kq435.1
     have sz_b436 := ql K423.1 hp452
     have sz_b438 := ql K423.1 hp457
     refine qb st435 ?_
     show qG p e below _ (T435.setTop (mkF m 210 #[vI p0, vI p1, vI p2, vI p3, vI p4, vI p5, vI v1, vI v2, vR b4, vR b21, vR b38, vR b55, vR b72, vR b115, vR b120, vR b125, vR b130, vR b135, vR b289, .unset, .unset, .unset, .unset, .unset, .unset, .unset] [.null]))
     have F465 := (ktE429.keep Kq435)
     have nq466 := ne_exa F465 F444 (by decide)
     have nq467 := ne_exa F465 F439 (by decide)
     have F468 := (ka429.keep Kq435 (ninS nq467 (ninS nq466 nin0)))
     have Kf435 : own_Ks Z T435.heap (own_K b4 b21 b38 b55 b72) := own_Ks.put (i := 1) F428 Kq435 (by decide) rfl ((allS (Or.inl rfl) (allS (Or.inr (qo (F407.keep Kq423) (by decide))) all0))) ⟨_, _, _, _, F439, F440, F441, F442, F443, F465, F468, Or.inr rfl, hx429⟩
     have Fh464 : Fld Z T435.heap b438 cND "hash" "I" (.int (own_ch 1)) := by have q := F459; rwa [own_hsx hx429 (by decide)] at q
     have F469 := (F425.keep Kq435)
     have nq470 := ne_exa F469 F444 (by decide)
     have nq471 := ne_exa F469 F439 (by decide)
     have F472 := (F426.keep Kq435 (ninS nq471 (ninS nq470 nin0)))
     have N464 : own_Nd Z T435.heap b438 (own_ch 1) b21 b424 ((own_X p1 p2 p3 p4 p5) 1) := ⟨F458, Fh464, F460, F461, F462, F469, F472⟩
     have Sn464 : own_Ss Z T435.heap (own_K b4 b21 b38 b55 b72) (own_C v2 2) (own_X p1 p2 p3 p4 p5) (qu (fun _ => Value.null) (((15 : Int32) &&& (((fk429 0) &&& (255 : Int32)) ^^^ ((((fk429 0) &&& (255 : Int32)).toUInt32 >>> ((16 : Int32) &&& 31).toUInt32).toInt32)))).toNatClampNeg (.ref b438)) := own_Ss.put (i := 1) (own_Ss.zero (Z := Z) (h := T435.heap) (keys := (own_K b4 b21 b38 b55 b72)) (X := (own_X p1 p2 p3 p4 p5)) (C := own_C v2 1) M0430.2.2.2.2) (by decide) (own_ixx hx429 (by decide)) (own_Cs 1) (own_Ci 1 c421) N464
     have ct464 := own_szN (nd := b438) (own_ixx hx429 (by decide)) (by decide)
     have M464 : own_Mp Z T435.heap b289 (own_K b4 b21 b38 b55 b72) (own_C v2 2) (own_X p1 p2 p3 p4 p5) (2 : Int) h0.size := ⟨F444, ⟨_, F449⟩, F450, Or.inr ⟨_, _, _, _, F445, F446, F447, F448, F453, F454, hp455, Sn464, ct464.1, (by decide), sz_b436⟩⟩
     have F473 := ((F416.keep Kq423 all0).keep Kq435 (allS (qo (F406.keep Kq423) (by decide)) (allS (qo (F407.keep Kq423) (by decide)) all0)))
     have F474 := ((F418.keep Kq423 all0).keep Kq435 (allS (qo (F406.keep Kq423) (by decide)) (allS (qo (F407.keep Kq423) (by decide)) all0)))
     refine qb (fun _ k => XS.pop X435.here hx rfl (hb hby at_210) rfl rfl k) ?_
     have F475 := ((F405.keep Kq423).keep Kq435)
     have F476 := ((F408.keep Kq423).keep Kq435)
     have F477 := ((F409.keep Kq423).keep Kq435)
     have F478 := ((F410.keep Kq423).keep Kq435)
     have F479 := ((F411.keep Kq423).keep Kq435)
     have F480 := ((F412.keep Kq423).keep Kq435)
     have F481 := qk F434 Kq435 (allS (qx F433) (allS (qx F432) all0))
     have F482 := qk (qk F414 Kq423 all0) Kq435 (allS (qx F433) (allS (qx F432) all0))
     have F483 := qk (qk F415 Kq423 all0) Kq435 (allS (qx F433) (allS (qx F432) all0))
     exact J515 _ _ _ X435 rfl N435 K435 Z435 F475 F439 F444 F476 F477 F478 F479 F480 F481 F482 F483 F473 Kf435 F474 M464 trivial
    ·skip
     obtain ⟨Ft430, Fs430, Fm430, Fh430, Et430, Vt430, Ov430, Ss430, c1430, c2430, c3430⟩ := Mt430
     have ge430 : n0 ≤ tm430 := ql Z0 c3430
     have hu430 : (gm430 (((15 : Int32) &&& (((fk429 0) &&& (255 : Int32)) ^^^ ((((fk429 0) &&& (255 : Int32)).toUInt32 >>> ((16 : Int32) &&& 31).toUInt32).toInt32)))).toNatClampNeg) = .null := by rw [own_ixx hx429 (by decide)]; exact own_SlN (Ss430.2 1 (by decide)) (fun h => Nat.lt_irrefl _ h.1)
     have hp430 : ¬ ((12 : Int32) < (sm430 + (1 : Int32))) := own_pt c2430 (by decide)
     show qG p e below _ (T423.setTop (mkF m 207 #[vI p0, vI p1, vI p2, vI p3, vI p4, vI p5, vI v1, vI v2, vR b4, vR b21, vR b38, vR b55, vR b72, vR b115, vR b120, vR b125, vR b130, vR b135, vR b289, .unset, .unset, .unset, .unset, .unset, .unset, .unset] [(.ref b424), (.ref b21), (.ref b289)]))
     have F475 := (F407.keep Kq423)
     have F476 := (F406.keep Kq423)
     have F477 := qk F413 Kq423 all0
     obtain ⟨_, T478, Lc478, X478, hQ478, st478⟩ := own_cV X423 hx hZ hown hml (rmputT l Z A0 hw [] lf430 tm430 sm430 km430 gm430 tk429 kk429 fk429 hv429 f_CS b289 b21 b424 T423.heap n0 Z423 F475 Ft430 Fs430 Fm430 Fh430 Fl430 Fv430 Vt430 Ov430 F476 kc429 kv429 kh429 kz429 ka429 hh429 hn429 F477 hn_CS hu430 hp24 hb429 ge430 ge_b289 hp430) (hwd 311 rfl) (hwd 313 rfl) (hwd 68 rfl) (hwd 315 rfl) (by decide) pd_283 rfl (hwd 312 rfl) (hwd 314 rfl) F475 (g := (mkF m 207 #[vI p0, vI p1, vI p2, vI p3, vI p4, vI p5, vI v1, vI v2, vR b4, vR b21, vR b38, vR b55, vR b72, vR b115, vR b120, vR b125, vR b130, vR b135, vR b289, .unset, .unset, .unset, .unset, .unset, .unset, .unset] [(.ref b424), (.ref b21), (.ref b289)])) (rest := []) rfl rfl rfl rfl (hb hby at_207) rfl
     obtain ⟨b479, rfl, Nq478, Kq478, F480, F481, F482, F483, F484, F485, F486, F487, F488, F489, F490, F491, F492, hp493, hp494, F495, F496, F497, F498, F499⟩ := hQ478
     have N478 := Fr.app N423 Nq478
     have K478 : Keep h0 T478.heap [] := K423.trans Kq478 ((allS (Or.inr sz_b21) (allS (Or.inr sz_b289) (allS (Or.inr c3430) all0))))
     have Z478 := ql Z423 Kq478.1
     have sz_b479 := ql K423.1 hp494
     refine qb st478 ?_
     show qG p e below _ (T478.setTop (mkF m 210 #[vI p0, vI p1, vI p2, vI p3, vI p4, vI p5, vI v1, vI v2, vR b4, vR b21, vR b38, vR b55, vR b72, vR b115, vR b120, vR b125, vR b130, vR b135, vR b289, .unset, .unset, .unset, .unset, .unset, .unset, .unset] [.null]))
     have F501 := (ktE429.keep Kq478)
     have F503 := (Et430.keep Kq478)
     have nq502 := ne_exa F501 F503 (by decide)
     have nq504 := ne_exa F501 F485 (by decide)
     have nq505 := ne_exa F501 F480 (by decide)
     have F506 := (ka429.keep Kq478 (ninS nq505 (ninS nq504 (ninS nq502 nin0))))
     have Kf478 : own_Ks Z T478.heap (own_K b4 b21 b38 b55 b72) := own_Ks.put (i := 1) F428 Kq478 (by decide) rfl ((allS (Or.inl rfl) (allS (Or.inr (qo (F407.keep Kq423) (by decide))) (allS (Or.inr (qo Et430 (by decide))) all0)))) ⟨_, _, _, _, F480, F481, F482, F483, F484, F501, F506, Or.inr rfl, hx429⟩
     have Fh500 : Fld Z T478.heap b479 cND "hash" "I" (.int (own_ch 1)) := by have q := F496; rwa [own_hsx hx429 (by decide)] at q
     have F507 := (F425.keep Kq478)
     have nq508 := ne_exa F507 F503 (by decide)
     have nq509 := ne_exa F507 F485 (by decide)
     have nq510 := ne_exa F507 F480 (by decide)
     have F511 := (F426.keep Kq478 (ninS nq510 (ninS nq509 (ninS nq508 nin0))))
     have N500 : own_Nd Z T478.heap b479 (own_ch 1) b21 b424 ((own_X p1 p2 p3 p4 p5) 1) := ⟨F495, Fh500, F497, F498, F499, F507, F511⟩
     have F512 := (Ss430.keep Kq478 (allS (qo (F406.keep Kq423) (by decide)) (allS (qo (F407.keep Kq423) (by decide)) (allS (qo Et430 (by decide)) all0))))
     have Sn500 : own_Ss Z T478.heap (own_K b4 b21 b38 b55 b72) (own_C v2 2) (own_X p1 p2 p3 p4 p5) (qu gm430 (((15 : Int32) &&& (((fk429 0) &&& (255 : Int32)) ^^^ ((((fk429 0) &&& (255 : Int32)).toUInt32 >>> ((16 : Int32) &&& 31).toUInt32).toInt32)))).toNatClampNeg (.ref b479)) := own_Ss.put (i := 1) F512 (by decide) (own_ixx hx429 (by decide)) (own_Cs 1) (own_Ci 1 c421) N500
     have ct500 := own_szT (nd := b479) c1430 c2430 (by decide) hu430 (own_ixx hx429 (by decide)) (by decide)
     have M500 : own_Mp Z T478.heap b289 (own_K b4 b21 b38 b55 b72) (own_C v2 2) (own_X p1 p2 p3 p4 p5) (2 : Int) h0.size := ⟨F485, ⟨_, F490⟩, F491, Or.inr ⟨_, _, _, _, F486, F487, F488, F489, F503, F492, Ov430, Sn500, ct500.1, ct500.2, c3430⟩⟩
     have F513 := ((F416.keep Kq423 all0).keep Kq478 (allS (qo (F406.keep Kq423) (by decide)) (allS (qo (F407.keep Kq423) (by decide)) (allS (qo Et430 (by decide)) all0))))
     have F514 := ((F418.keep Kq423 all0).keep Kq478 (allS (qo (F406.keep Kq423) (by decide)) (allS (qo (F407.keep Kq423) (by decide)) (allS (qo Et430 (by decide)) all0))))
     refine qb (fun _ k => XS.pop X478.here hx rfl (hb hby at_210) rfl rfl k) ?_
     have F515 := ((F405.keep Kq423).keep Kq478)
     have F516 := ((F408.keep Kq423).keep Kq478)
     have F517 := ((F409.keep Kq423).keep Kq478)
     have F518 := ((F410.keep Kq423).keep Kq478)
     have F519 := ((F411.keep Kq423).keep Kq478)
     have F520 := ((F412.keep Kq423).keep Kq478)
     have F521 := qk F477 Kq478 (allS (qx F476) (allS (qx F475) (allS (qx Et430) all0)))
     have F522 := qk (qk F414 Kq423 all0) Kq478 (allS (qx F476) (allS (qx F475) (allS (qx Et430) all0)))
     have F523 := qk (qk F415 Kq423 all0) Kq478 (allS (qx F476) (allS (qx F475) (allS (qx Et430) all0)))
     exact J515 _ _ _ (own_mono X478 (by decide) (by decide)) rfl N478 K478 Z478 F515 F480 F485 F516 F517 F518 F519 F520 F521 F522 F523 F513 Kf478 F514 M500 trivial
  by_cases c299 : (v2 &&& (1 : Int32)) = (0 : Int32)
  ·skip
   refine qb (fun _ k => XS.ifYes X290.here hx rfl (pc0 := 177) (pc' := 192) rfl (hb hby at_177) rfl ((if0 _ _).trans (teq c299).1) (by decide) (by decide) k) ?_
   show qG p e below _ (T290.setTop (mkF m 192 #[vI p0, vI p1, vI p2, vI p3, vI p4, vI p5, vI v1, vI v2, vR b4, vR b21, vR b38, vR b55, vR b72, vR b115, vR b120, vR b125, vR b130, vR b135, vR b289, .unset, .unset, .unset, .unset, .unset, .unset, .unset] []))
   have M300 : own_Mp Z T290.heap b289 (own_K b4 b21 b38 b55 b72) (own_C v2 1) (own_X p1 p2 p3 p4 p5) (1 : Int) h0.size := own_Mp.skip M298 (own_Cn 0 c299) (by decide)
   have F301 := ((F265.ext E289).keep Kq290)
   have F302 := ((F266.ext E289).keep Kq290)
   have F303 := ((F267.ext E289).keep Kq290)
   have F304 := ((F268.ext E289).keep Kq290)
   have F305 := ((F269.ext E289).keep Kq290)
   have F306 := ((F270.ext E289).keep Kq290)
   have F307 := ((F271.ext E289).keep Kq290)
   have F308 := qk (F272.ext E289) Kq290 (allS (qx A289) all0)
   have F309 := qk (F273.ext E289) Kq290 (allS (qx A289) all0)
   have F310 := qk (F274.ext E289) Kq290 (allS (qx A289) all0)
   have F311 := ((F275.ext E289).keep Kq290 (allS (qo A289 (by decide)) all0))
   have F312 := ((F276.ext E289).keep Kq290 (allS (qo A289 (by decide)) all0))
   have F313 := ((F277.ext E289).keep Kq290 (allS (qo A289 (by decide)) all0))
   exact J396 _ _ _ (own_mono X290 (by decide) (by decide)) rfl N290 K290 Z290 F301 F302 F291 F303 F304 F305 F306 F307 F308 F309 F310 F311 F312 F313 M300 trivial
  ·skip
   refine qb (fun _ k => XS.ifNo X290.here hx rfl (hb hby at_177) rfl ((if0 _ _).trans (feq c299).1) k) ?_
   show qG p e below _ (T290.setTop (mkF m 180 #[vI p0, vI p1, vI p2, vI p3, vI p4, vI p5, vI v1, vI v2, vR b4, vR b21, vR b38, vR b55, vR b72, vR b115, vR b120, vR b125, vR b130, vR b135, vR b289, .unset, .unset, .unset, .unset, .unset, .unset, .unset] []))
   refine qb (fun _ k => XS.aload X290.here hx rfl (hb hby at_180) rfl rfl k) ?_
   refine qb (fun _ k => XS.aload X290.here hx rfl (hb hby at_182) rfl rfl k) ?_
   refine qb (fun _ k => XS.iloadN X290.here hx rfl (hb hby at_184) rfl k) ?_
   have F301 := qk (F273.ext E289) Kq290 (allS (qx A289) all0)
   have F302 := qk (F274.ext E289) Kq290 (allS (qx A289) all0)
   have F303 := ((F275.ext E289).keep Kq290 (allS (qo A289 (by decide)) all0))
   obtain ⟨_, T304, Lc304, X304, hQ304, st304⟩ := own_cS X290 hx hZ hown hml (rmivo l Z A0 hw [] f_CA k_CA fn_CA p1 T290.heap n0 Z290 F301 F302 F303) (hwd 310 rfl) (hwd 277 rfl) (hwd 278 rfl) (hwd 279 rfl) (by decide) pd_276 rfl (g := (mkF m 185 #[vI p0, vI p1, vI p2, vI p3, vI p4, vI p5, vI v1, vI v2, vR b4, vR b21, vR b38, vR b55, vR b72, vR b115, vR b120, vR b125, vR b130, vR b135, vR b289, .unset, .unset, .unset, .unset, .unset, .unset, .unset] [(.int p1), (.ref b4), (.ref b289)])) (rest := [(.ref b4), (.ref b289)]) rfl rfl rfl rfl (hb hby at_185) rfl
   obtain ⟨b305, rfl, Nq304, Kq304, F306, F307, hp308⟩ := hQ304
   have N304 := Fr.app N290 Nq304
   have K304 : Keep h0 T304.heap [] := K290.trans Kq304 (all0)
   have Z304 := ql Z290 Kq304.1
   refine qb st304 ?_
   show qG p e below _ (T304.setTop (mkF m 188 #[vI p0, vI p1, vI p2, vI p3, vI p4, vI p5, vI v1, vI v2, vR b4, vR b21, vR b38, vR b55, vR b72, vR b115, vR b120, vR b125, vR b130, vR b135, vR b289, .unset, .unset, .unset, .unset, .unset, .unset, .unset] [(.ref b305), (.ref b4), (.ref b289)]))
   have F309 := (((F276.ext E289).keep Kq290 (allS (qo A289 (by decide)) all0)).keep Kq304 all0)
   have Kx310 := F309.2 0 (by decide)
   obtain ⟨tk310, kk310, fk310, hv310, kE310, kc310, kv310, kh310, kz310, ktE310, ka310, hh310, hx310⟩ := Kx310
   have hn310 : ¬ (((fk310 0) &&& (255 : Int32)) = (0 : Int32)) := own_chn hx310 (by decide)
   have hb310 := own_ixb hx310 (by decide)
   have F312 := (M298.keep Kq304 all0)
   obtain ⟨-, ⟨lf311, Fl311⟩, Fv311, M0311 | ⟨tm311, km311, gm311, sm311, Mt311⟩⟩ := F312
   ·skip
    show qG p e below _ (T304.setTop (mkF m 188 #[vI p0, vI p1, vI p2, vI p3, vI p4, vI p5, vI v1, vI v2, vR b4, vR b21, vR b38, vR b55, vR b72, vR b115, vR b120, vR b125, vR b130, vR b135, vR b289, .unset, .unset, .unset, .unset, .unset, .unset, .unset] [(.ref b305), (.ref b4), (.ref b289)]))
    have F313 := (F291.keep Kq304)
    have F314 := (((F268.ext E289).keep Kq290).keep Kq304)
    have F315 := qk (qk (F272.ext E289) Kq290 (allS (qx A289) all0)) Kq304 all0
    obtain ⟨_, T316, Lc316, X316, hQ316, st316⟩ := own_cV X304 hx hZ hown hml (rmputN l Z A0 hw [] lf311 tk310 kk310 fk310 hv310 f_CS b289 b4 b305 T304.heap n0 Z304 F313 M0311.1 M0311.2.1 M0311.2.2.1 M0311.2.2.2.1 Fl311 Fv311 F314 kc310 kv310 kh310 kz310 ka310 hh310 hn310 F315 hn_CS hp7 ge_b289 hb310) (hwd 311 rfl) (hwd 313 rfl) (hwd 68 rfl) (hwd 315 rfl) (by decide) pd_283 rfl (hwd 312 rfl) (hwd 314 rfl) F313 (g := (mkF m 188 #[vI p0, vI p1, vI p2, vI p3, vI p4, vI p5, vI v1, vI v2, vR b4, vR b21, vR b38, vR b55, vR b72, vR b115, vR b120, vR b125, vR b130, vR b135, vR b289, .unset, .unset, .unset, .unset, .unset, .unset, .unset] [(.ref b305), (.ref b4), (.ref b289)])) (rest := []) rfl rfl rfl rfl (hb hby at_188) rfl
    obtain ⟨b317, b318, b319, rfl, Nq316, Kq316, F320, F321, F322, F323, F324, F325, F326, F327, F328, F329, F330, F331, hp332, hp333, F334, F335, hp336, hp337, hp338, F339, F340, F341, F342, F343, hp344⟩ := hQ316
    have N316 := Fr.app N304 Nq316
    have K316 : Keep h0 T316.heap [] := K304.trans Kq316 ((allS (Or.inr sz_b4) (allS (Or.inr sz_b289) all0)))
    have Z316 := ql Z304 Kq316.1
    have sz_b317 := ql K304.1 hp333
    have sz_b319 := ql K304.1 hp338
    refine qb st316 ?_
    show qG p e below _ (T316.setTop (mkF m 191 #[vI p0, vI p1, vI p2, vI p3, vI p4, vI p5, vI v1, vI v2, vR b4, vR b21, vR b38, vR b55, vR b72, vR b115, vR b120, vR b125, vR b130, vR b135, vR b289, .unset, .unset, .unset, .unset, .unset, .unset, .unset] [.null]))
    have F346 := (ktE310.keep Kq316)
    have nq347 := ne_exa F346 F325 (by decide)
    have nq348 := ne_exa F346 F320 (by decide)
    have F349 := (ka310.keep Kq316 (ninS nq348 (ninS nq347 nin0)))
    have Kf316 : own_Ks Z T316.heap (own_K b4 b21 b38 b55 b72) := own_Ks.put (i := 0) F309 Kq316 (by decide) rfl ((allS (Or.inl rfl) (allS (Or.inr (qo ((A289.keep Kq290).keep Kq304) (by decide))) all0))) ⟨_, _, _, _, F320, F321, F322, F323, F324, F346, F349, Or.inr rfl, hx310⟩
    have Fh345 : Fld Z T316.heap b319 cND "hash" "I" (.int (own_ch 0)) := by have q := F340; rwa [own_hsx hx310 (by decide)] at q
    have F350 := (F306.keep Kq316)
    have nq351 := ne_exa F350 F325 (by decide)
    have nq352 := ne_exa F350 F320 (by decide)
    have F353 := (F307.keep Kq316 (ninS nq352 (ninS nq351 nin0)))
    have N345 : own_Nd Z T316.heap b319 (own_ch 0) b4 b305 ((own_X p1 p2 p3 p4 p5) 0) := ⟨F339, Fh345, F341, F342, F343, F350, F353⟩
    have Sn345 : own_Ss Z T316.heap (own_K b4 b21 b38 b55 b72) (own_C v2 1) (own_X p1 p2 p3 p4 p5) (qu (fun _ => Value.null) (((15 : Int32) &&& (((fk310 0) &&& (255 : Int32)) ^^^ ((((fk310 0) &&& (255 : Int32)).toUInt32 >>> ((16 : Int32) &&& 31).toUInt32).toInt32)))).toNatClampNeg (.ref b319)) := own_Ss.put (i := 0) (own_Ss.zero (Z := Z) (h := T316.heap) (keys := (own_K b4 b21 b38 b55 b72)) (X := (own_X p1 p2 p3 p4 p5)) (C := own_C v2 0) M0311.2.2.2.2) (by decide) (own_ixx hx310 (by decide)) (own_Cs 0) (own_Ci 0 c299) N345
    have ct345 := own_szN (nd := b319) (own_ixx hx310 (by decide)) (by decide)
    have M345 : own_Mp Z T316.heap b289 (own_K b4 b21 b38 b55 b72) (own_C v2 1) (own_X p1 p2 p3 p4 p5) (1 : Int) h0.size := ⟨F325, ⟨_, F330⟩, F331, Or.inr ⟨_, _, _, _, F326, F327, F328, F329, F334, F335, hp336, Sn345, ct345.1, (by decide), sz_b317⟩⟩
    have F354 := ((F303.keep Kq304 all0).keep Kq316 (allS (qo (((F268.ext E289).keep Kq290).keep Kq304) (by decide)) (allS (qo ((A289.keep Kq290).keep Kq304) (by decide)) all0)))
    have F355 := ((((F277.ext E289).keep Kq290 (allS (qo A289 (by decide)) all0)).keep Kq304 all0).keep Kq316 (allS (qo (((F268.ext E289).keep Kq290).keep Kq304) (by decide)) (allS (qo ((A289.keep Kq290).keep Kq304) (by decide)) all0)))
    refine qb (fun _ k => XS.pop X316.here hx rfl (hb hby at_191) rfl rfl k) ?_
    have F356 := ((((F265.ext E289).keep Kq290).keep Kq304).keep Kq316)
    have F357 := ((((F266.ext E289).keep Kq290).keep Kq304).keep Kq316)
    have F358 := ((((F267.ext E289).keep Kq290).keep Kq304).keep Kq316)
    have F359 := ((((F269.ext E289).keep Kq290).keep Kq304).keep Kq316)
    have F360 := ((((F270.ext E289).keep Kq290).keep Kq304).keep Kq316)
    have F361 := ((((F271.ext E289).keep Kq290).keep Kq304).keep Kq316)
    have F362 := qk F315 Kq316 (allS (qx F314) (allS (qx F313) all0))
    have F363 := qk (qk F301 Kq304 all0) Kq316 (allS (qx F314) (allS (qx F313) all0))
    have F364 := qk (qk F302 Kq304 all0) Kq316 (allS (qx F314) (allS (qx F313) all0))
    exact J396 _ _ _ X316 rfl N316 K316 Z316 F356 F357 F325 F358 F320 F359 F360 F361 F362 F363 F364 F354 Kf316 F355 M345 trivial
   ·skip
    obtain ⟨Ft311, Fs311, Fm311, Fh311, Et311, Vt311, Ov311, Ss311, c1311, c2311, c3311⟩ := Mt311
    have ge311 : n0 ≤ tm311 := ql Z0 c3311
    have hu311 : (gm311 (((15 : Int32) &&& (((fk310 0) &&& (255 : Int32)) ^^^ ((((fk310 0) &&& (255 : Int32)).toUInt32 >>> ((16 : Int32) &&& 31).toUInt32).toInt32)))).toNatClampNeg) = .null := by rw [own_ixx hx310 (by decide)]; exact own_SlN (Ss311.2 0 (by decide)) (fun h => Nat.lt_irrefl _ h.1)
    have hp311 : ¬ ((12 : Int32) < (sm311 + (1 : Int32))) := own_pt c2311 (by decide)
    show qG p e below _ (T304.setTop (mkF m 188 #[vI p0, vI p1, vI p2, vI p3, vI p4, vI p5, vI v1, vI v2, vR b4, vR b21, vR b38, vR b55, vR b72, vR b115, vR b120, vR b125, vR b130, vR b135, vR b289, .unset, .unset, .unset, .unset, .unset, .unset, .unset] [(.ref b305), (.ref b4), (.ref b289)]))
    have F356 := (F291.keep Kq304)
    have F357 := (((F268.ext E289).keep Kq290).keep Kq304)
    have F358 := qk (qk (F272.ext E289) Kq290 (allS (qx A289) all0)) Kq304 all0
    obtain ⟨_, T359, Lc359, X359, hQ359, st359⟩ := own_cV X304 hx hZ hown hml (rmputT l Z A0 hw [] lf311 tm311 sm311 km311 gm311 tk310 kk310 fk310 hv310 f_CS b289 b4 b305 T304.heap n0 Z304 F356 Ft311 Fs311 Fm311 Fh311 Fl311 Fv311 Vt311 Ov311 F357 kc310 kv310 kh310 kz310 ka310 hh310 hn310 F358 hn_CS hu311 hp7 hb310 ge311 ge_b289 hp311) (hwd 311 rfl) (hwd 313 rfl) (hwd 68 rfl) (hwd 315 rfl) (by decide) pd_283 rfl (hwd 312 rfl) (hwd 314 rfl) F356 (g := (mkF m 188 #[vI p0, vI p1, vI p2, vI p3, vI p4, vI p5, vI v1, vI v2, vR b4, vR b21, vR b38, vR b55, vR b72, vR b115, vR b120, vR b125, vR b130, vR b135, vR b289, .unset, .unset, .unset, .unset, .unset, .unset, .unset] [(.ref b305), (.ref b4), (.ref b289)])) (rest := []) rfl rfl rfl rfl (hb hby at_188) rfl
    obtain ⟨b360, rfl, Nq359, Kq359, F361, F362, F363, F364, F365, F366, F367, F368, F369, F370, F371, F372, F373, hp374, hp375, F376, F377, F378, F379, F380⟩ := hQ359
    have N359 := Fr.app N304 Nq359
    have K359 : Keep h0 T359.heap [] := K304.trans Kq359 ((allS (Or.inr sz_b4) (allS (Or.inr sz_b289) (allS (Or.inr c3311) all0))))
    have Z359 := ql Z304 Kq359.1
    have sz_b360 := ql K304.1 hp375
    refine qb st359 ?_
    show qG p e below _ (T359.setTop (mkF m 191 #[vI p0, vI p1, vI p2, vI p3, vI p4, vI p5, vI v1, vI v2, vR b4, vR b21, vR b38, vR b55, vR b72, vR b115, vR b120, vR b125, vR b130, vR b135, vR b289, .unset, .unset, .unset, .unset, .unset, .unset, .unset] [.null]))
    have F382 := (ktE310.keep Kq359)
    have F384 := (Et311.keep Kq359)
    have nq383 := ne_exa F382 F384 (by decide)
    have nq385 := ne_exa F382 F366 (by decide)
    have nq386 := ne_exa F382 F361 (by decide)
    have F387 := (ka310.keep Kq359 (ninS nq386 (ninS nq385 (ninS nq383 nin0))))
    have Kf359 : own_Ks Z T359.heap (own_K b4 b21 b38 b55 b72) := own_Ks.put (i := 0) F309 Kq359 (by decide) rfl ((allS (Or.inl rfl) (allS (Or.inr (qo ((A289.keep Kq290).keep Kq304) (by decide))) (allS (Or.inr (qo Et311 (by decide))) all0)))) ⟨_, _, _, _, F361, F362, F363, F364, F365, F382, F387, Or.inr rfl, hx310⟩
    have Fh381 : Fld Z T359.heap b360 cND "hash" "I" (.int (own_ch 0)) := by have q := F377; rwa [own_hsx hx310 (by decide)] at q
    have F388 := (F306.keep Kq359)
    have nq389 := ne_exa F388 F384 (by decide)
    have nq390 := ne_exa F388 F366 (by decide)
    have nq391 := ne_exa F388 F361 (by decide)
    have F392 := (F307.keep Kq359 (ninS nq391 (ninS nq390 (ninS nq389 nin0))))
    have N381 : own_Nd Z T359.heap b360 (own_ch 0) b4 b305 ((own_X p1 p2 p3 p4 p5) 0) := ⟨F376, Fh381, F378, F379, F380, F388, F392⟩
    have F393 := (Ss311.keep Kq359 (allS (qo (((F268.ext E289).keep Kq290).keep Kq304) (by decide)) (allS (qo ((A289.keep Kq290).keep Kq304) (by decide)) (allS (qo Et311 (by decide)) all0))))
    have Sn381 : own_Ss Z T359.heap (own_K b4 b21 b38 b55 b72) (own_C v2 1) (own_X p1 p2 p3 p4 p5) (qu gm311 (((15 : Int32) &&& (((fk310 0) &&& (255 : Int32)) ^^^ ((((fk310 0) &&& (255 : Int32)).toUInt32 >>> ((16 : Int32) &&& 31).toUInt32).toInt32)))).toNatClampNeg (.ref b360)) := own_Ss.put (i := 0) F393 (by decide) (own_ixx hx310 (by decide)) (own_Cs 0) (own_Ci 0 c299) N381
    have ct381 := own_szT (nd := b360) c1311 c2311 (by decide) hu311 (own_ixx hx310 (by decide)) (by decide)
    have M381 : own_Mp Z T359.heap b289 (own_K b4 b21 b38 b55 b72) (own_C v2 1) (own_X p1 p2 p3 p4 p5) (1 : Int) h0.size := ⟨F366, ⟨_, F371⟩, F372, Or.inr ⟨_, _, _, _, F367, F368, F369, F370, F384, F373, Ov311, Sn381, ct381.1, ct381.2, c3311⟩⟩
    have F394 := ((F303.keep Kq304 all0).keep Kq359 (allS (qo (((F268.ext E289).keep Kq290).keep Kq304) (by decide)) (allS (qo ((A289.keep Kq290).keep Kq304) (by decide)) (allS (qo Et311 (by decide)) all0))))
    have F395 := ((((F277.ext E289).keep Kq290 (allS (qo A289 (by decide)) all0)).keep Kq304 all0).keep Kq359 (allS (qo (((F268.ext E289).keep Kq290).keep Kq304) (by decide)) (allS (qo ((A289.keep Kq290).keep Kq304) (by decide)) (allS (qo Et311 (by decide)) all0))))
    refine qb (fun _ k => XS.pop X359.here hx rfl (hb hby at_191) rfl rfl k) ?_
    have F396 := ((((F265.ext E289).keep Kq290).keep Kq304).keep Kq359)
    have F397 := ((((F266.ext E289).keep Kq290).keep Kq304).keep Kq359)
    have F398 := ((((F267.ext E289).keep Kq290).keep Kq304).keep Kq359)
    have F399 := ((((F269.ext E289).keep Kq290).keep Kq304).keep Kq359)
    have F400 := ((((F270.ext E289).keep Kq290).keep Kq304).keep Kq359)
    have F401 := ((((F271.ext E289).keep Kq290).keep Kq304).keep Kq359)
    have F402 := qk F358 Kq359 (allS (qx F357) (allS (qx F356) (allS (qx Et311) all0)))
    have F403 := qk (qk F301 Kq304 all0) Kq359 (allS (qx F357) (allS (qx F356) (allS (qx Et311) all0)))
    have F404 := qk (qk F302 Kq304 all0) Kq359 (allS (qx F357) (allS (qx F356) (allS (qx Et311) all0)))
    exact J396 _ _ _ (own_mono X359 (by decide) (by decide)) rfl N359 K359 Z359 F396 F397 F366 F398 F361 F399 F400 F401 F402 F403 F404 F394 Kf359 F395 M381 trivial
 by_cases c142 : v1 < (1 : Int32)
 ·skip
  refine qb (fun _ k => XS.icmpYes X137.here hx rfl (pc0 := 111) (pc' := 122) rfl (hb hby at_111) rfl (tlt c142).1 (by decide) (by decide) k) ?_
  show qG p e below _ (T137.setTop (mkF m 122 #[vI p0, vI p1, vI p2, vI p3, vI p4, vI p5, vI v1, vI v2, vR b4, vR b21, vR b38, vR b55, vR b72, vR b115, vR b120, vR b125, vR b130, vR b135, .unset, .unset, .unset, .unset, .unset, .unset, .unset, .unset] []))
  refine qb (fun _ k => XS.iload X137.here hx rfl (hb hby at_122) rfl k) ?_
  refine qb (fun _ k => XS.iconst X137.here hx rfl (hb hby at_124) k) ?_
  have hd143 : v1 < (2 : Int32) := (ob_0_125 f_CS p0 v1 v2 hn_CS hv1 hn0 hn5 hv2 c142)
  refine qb (fun _ k => XS.icmpYes X137.here hx rfl (pc0 := 125) (pc' := 136) rfl (hb hby at_125) rfl (tlt hd143).1 (by decide) (by decide) k) ?_
  show qG p e below _ (T137.setTop (mkF m 136 #[vI p0, vI p1, vI p2, vI p3, vI p4, vI p5, vI v1, vI v2, vR b4, vR b21, vR b38, vR b55, vR b72, vR b115, vR b120, vR b125, vR b130, vR b135, .unset, .unset, .unset, .unset, .unset, .unset, .unset, .unset] []))
  refine qb (fun _ k => XS.iload X137.here hx rfl (hb hby at_136) rfl k) ?_
  refine qb (fun _ k => XS.iconst X137.here hx rfl (hb hby at_138) k) ?_
  have hd144 : v1 < (3 : Int32) := (ob_0_126 f_CS p0 v1 v2 hn_CS hv1 hn0 hn5 hv2 c142)
  refine qb (fun _ k => XS.icmpYes X137.here hx rfl (pc0 := 139) (pc' := 150) rfl (hb hby at_139) rfl (tlt hd144).1 (by decide) (by decide) k) ?_
  show qG p e below _ (T137.setTop (mkF m 150 #[vI p0, vI p1, vI p2, vI p3, vI p4, vI p5, vI v1, vI v2, vR b4, vR b21, vR b38, vR b55, vR b72, vR b115, vR b120, vR b125, vR b130, vR b135, .unset, .unset, .unset, .unset, .unset, .unset, .unset, .unset] []))
  refine qb (fun _ k => XS.iload X137.here hx rfl (hb hby at_150) rfl k) ?_
  refine qb (fun _ k => XS.iconst X137.here hx rfl (hb hby at_152) k) ?_
  have hd145 : v1 < (4 : Int32) := (ob_0_127 f_CS p0 v1 v2 hn_CS hv1 hn0 hn5 hv2 c142)
  refine qb (fun _ k => XS.icmpYes X137.here hx rfl (pc0 := 153) (pc' := 164) rfl (hb hby at_153) rfl (tlt hd145).1 (by decide) (by decide) k) ?_
  show qG p e below _ (T137.setTop (mkF m 164 #[vI p0, vI p1, vI p2, vI p3, vI p4, vI p5, vI v1, vI v2, vR b4, vR b21, vR b38, vR b55, vR b72, vR b115, vR b120, vR b125, vR b130, vR b135, .unset, .unset, .unset, .unset, .unset, .unset, .unset, .unset] []))
  have F147 := (((((((((((((((P_Ca.keep Kq3 all0).keep Kq20 all0).keep Kq37 all0).keep Kq54 all0).keep Kq71 all0).ext E115).keep Kq116 (allS (qo A115 (by decide)) all0)).ext E120).keep Kq121 (allS (qo A120 (by decide)) all0)).ext E125).keep Kq126 (allS (qo A125 (by decide)) all0)).ext E130).keep Kq131 (allS (qo A130 (by decide)) all0)).ext E135).keep Kq137 (allS (qo A135 (by decide)) all0))
  have F148 := ((((((((((Ks0.ext E115).keep Kq116 (allS (qo A115 (by decide)) all0)).ext E120).keep Kq121 (allS (qo A120 (by decide)) all0)).ext E125).keep Kq126 (allS (qo A125 (by decide)) all0)).ext E130).keep Kq131 (allS (qo A130 (by decide)) all0)).ext E135).keep Kq137 (allS (qo A135 (by decide)) all0))
  have hk146 : (0 : Int32) = v1 := (ob_0_128 f_CS p0 v1 v2 hn_CS hv1 hn0 hn5 hv2 c142)
  have Fs146 : Fld Z T137.heap b135 cAL "size" "I" (.int v1) := by rw [← hk146]; exact F141
  have Al146 : own_Al Z T137.heap b135 v1 (own_K b4 b21 b38 b55 b72) := ⟨F138, Fs146, ⟨hn0, hn5⟩, Or.inl hk146.symm⟩
  have F149 := ((((((((((F94.ext E115).keep Kq116).ext E120).keep Kq121).ext E125).keep Kq126).ext E130).keep Kq131).ext E135).keep Kq137)
  have F150 := ((((((((((F101.ext E115).keep Kq116).ext E120).keep Kq121).ext E125).keep Kq126).ext E130).keep Kq131).ext E135).keep Kq137)
  have F151 := ((((((((((F87.ext E115).keep Kq116).ext E120).keep Kq121).ext E125).keep Kq126).ext E130).keep Kq131).ext E135).keep Kq137)
  have F152 := ((((((((((F108.ext E115).keep Kq116).ext E120).keep Kq121).ext E125).keep Kq126).ext E130).keep Kq131).ext E135).keep Kq137)
  have F153 := ((((((((((F77.ext E115).keep Kq116).ext E120).keep Kq121).ext E125).keep Kq126).ext E130).keep Kq131).ext E135).keep Kq137)
  have F154 := (((((((((((((((P_E_f_DE.keep Kq3).keep Kq20).keep Kq37).keep Kq54).keep Kq71).ext E115).keep Kq116).ext E120).keep Kq121).ext E125).keep Kq126).ext E130).keep Kq131).ext E135).keep Kq137)
  have F155 := qk ((qk ((qk ((qk ((qk ((qk F70 Kq71 all0).ext E115) Kq116 (allS (qx A115) all0)).ext E120) Kq121 (allS (qx A120) all0)).ext E125) Kq126 (allS (qx A125) all0)).ext E130) Kq131 (allS (qx A130) all0)).ext E135) Kq137 (allS (qx A135) all0)
  have F156 := qk ((qk ((qk ((qk ((qk ((qk (qk (qk (qk (qk P_S_HI Kq3 all0) Kq20 all0) Kq37 all0) Kq54 all0) Kq71 all0).ext E115) Kq116 (allS (qx A115) all0)).ext E120) Kq121 (allS (qx A120) all0)).ext E125) Kq126 (allS (qx A125) all0)).ext E130) Kq131 (allS (qx A130) all0)).ext E135) Kq137 (allS (qx A135) all0)
  have F157 := qk ((qk ((qk ((qk ((qk ((qk (qk (qk (qk (qk P_S_CA Kq3 all0) Kq20 all0) Kq37 all0) Kq54 all0) Kq71 all0).ext E115) Kq116 (allS (qx A115) all0)).ext E120) Kq121 (allS (qx A120) all0)).ext E125) Kq126 (allS (qx A125) all0)).ext E130) Kq131 (allS (qx A130) all0)).ext E135) Kq137 (allS (qx A135) all0)
  exact J256 _ _ _ (own_mono X137 (by decide) (by decide)) rfl N137 K137 Z137 F138 F149 F150 F151 F152 F153 F154 F155 F156 F157 F147 F148 Al146 (qn F26.lt hp42) (qm F9.lt hp25) (qm ((F9.keep Kq20)).lt hp42) (qn ((F26.keep Kq37)).lt hp59) (qn F43.lt hp59) (qn (((F9.keep Kq20).keep Kq37)).lt hp59) (qn (((F26.keep Kq37).keep Kq54)).lt hp76) (qn ((F43.keep Kq54)).lt hp76) (qn ((((F9.keep Kq20).keep Kq37).keep Kq54)).lt hp76) (qn F60.lt hp76) trivial
 ·skip
  refine qb (fun _ k => XS.icmpNo X137.here hx rfl (hb hby at_111) rfl (flt c142).1 k) ?_
  show qG p e below _ (T137.setTop (mkF m 114 #[vI p0, vI p1, vI p2, vI p3, vI p4, vI p5, vI v1, vI v2, vR b4, vR b21, vR b38, vR b55, vR b72, vR b115, vR b120, vR b125, vR b130, vR b135, .unset, .unset, .unset, .unset, .unset, .unset, .unset, .unset] []))
  refine qb (fun _ k => XS.aload X137.here hx rfl (hb hby at_114) rfl rfl k) ?_
  refine qb (fun _ k => XS.aload X137.here hx rfl (hb hby at_116) rfl rfl k) ?_
  have F149 := ((((((((F117.ext E120).keep Kq121).ext E125).keep Kq126).ext E130).keep Kq131).ext E135).keep Kq137)
  have F150 := qk F136 Kq137 (allS (qx A135) all0)
  have F152 := (((((((((((((((P_E_f_DE.keep Kq3).keep Kq20).keep Kq37).keep Kq54).keep Kq71).ext E115).keep Kq116).ext E120).keep Kq121).ext E125).keep Kq126).ext E130).keep Kq131).ext E135).keep Kq137)
  have nq151 := ne_exa F152 F149 (by decide)
  have F154 := ((((((F122.ext E125).keep Kq126).ext E130).keep Kq131).ext E135).keep Kq137)
  have nq153 := ne_exa F152 F154 (by decide)
  have F156 := ((((F127.ext E130).keep Kq131).ext E135).keep Kq137)
  have nq155 := ne_exa F152 F156 (by decide)
  have F158 := ((F132.ext E135).keep Kq137)
  have nq157 := ne_exa F152 F158 (by decide)
  have nq159 := ne_exa F152 F138 (by decide)
  have F160 := (((((((((((((((P_V_f_DE.keep Kq3 nin0).keep Kq20 nin0).keep Kq37 nin0).keep Kq54 nin0).keep Kq71 nin0).ext E115).keep Kq116 (ninS nq151 nin0)).ext E120).keep Kq121 (ninS nq153 nin0)).ext E125).keep Kq126 (ninS nq155 nin0)).ext E130).keep Kq131 (ninS nq157 nin0)).ext E135).keep Kq137 (ninS nq159 nin0))
  obtain ⟨_, T161, Lc161, X161, hQ161, st161⟩ := own_cV X137 hx hZ hown hml (rmadd0 l Z A0 hw [] f_DE k_f_DE fn_f_DE (0 : Int32) b135 b115 T137.heap n0 Z137 F138 F139 F140 F141 F149 F150 F160 ge_b135) (hwd 219 rfl) (hwd 221 rfl) (hwd 44 rfl) (hwd 223 rfl) (by decide) pd_219 rfl (hwd 220 rfl) (hwd 222 rfl) F138 (g := (mkF m 118 #[vI p0, vI p1, vI p2, vI p3, vI p4, vI p5, vI v1, vI v2, vR b4, vR b21, vR b38, vR b55, vR b72, vR b115, vR b120, vR b125, vR b130, vR b135, .unset, .unset, .unset, .unset, .unset, .unset, .unset, .unset] [(.ref b115), (.ref b135)])) (rest := []) rfl rfl rfl rfl (hb hby at_118) rfl
  obtain ⟨b162, b163, rfl, Nq161, Kq161, F164, F165, F166, F167, hp168, hp169, F170, F171, hp172⟩ := hQ161
  have N161 := Fr.app N137 Nq161
  have K161 : Keep h0 T161.heap [] := K137.trans Kq161 ((allS (Or.inr sz_b135) all0))
  have Z161 := ql Z137 Kq161.1
  have sz_b162 := ql K137.1 hp169
  refine qb st161 ?_
  show qG p e below _ (T161.setTop (mkF m 121 #[vI p0, vI p1, vI p2, vI p3, vI p4, vI p5, vI v1, vI v2, vR b4, vR b21, vR b38, vR b55, vR b72, vR b115, vR b120, vR b125, vR b130, vR b135, .unset, .unset, .unset, .unset, .unset, .unset, .unset, .unset] [(.int 1)]))
  refine qb (fun _ k => XS.pop X161.here hx rfl (hb hby at_121) rfl rfl k) ?_
  refine qb (fun _ k => XS.iload X161.here hx rfl (hb hby at_122) rfl k) ?_
  refine qb (fun _ k => XS.iconst X161.here hx rfl (hb hby at_124) k) ?_
  by_cases c173 : v1 < (2 : Int32)
  ·skip
   refine qb (fun _ k => XS.icmpYes X161.here hx rfl (pc0 := 125) (pc' := 136) rfl (hb hby at_125) rfl (tlt c173).1 (by decide) (by decide) k) ?_
   show qG p e below _ (T161.setTop (mkF m 136 #[vI p0, vI p1, vI p2, vI p3, vI p4, vI p5, vI v1, vI v2, vR b4, vR b21, vR b38, vR b55, vR b72, vR b115, vR b120, vR b125, vR b130, vR b135, .unset, .unset, .unset, .unset, .unset, .unset, .unset, .unset] []))
   refine qb (fun _ k => XS.iload X161.here hx rfl (hb hby at_136) rfl k) ?_
   refine qb (fun _ k => XS.iconst X161.here hx rfl (hb hby at_138) k) ?_
   have hd174 : v1 < (3 : Int32) := (ob_0_129 f_CS p0 v1 v2 hn_CS hv1 hn0 hn5 hv2 c142 c173)
   refine qb (fun _ k => XS.icmpYes X161.here hx rfl (pc0 := 139) (pc' := 150) rfl (hb hby at_139) rfl (tlt hd174).1 (by decide) (by decide) k) ?_
   show qG p e below _ (T161.setTop (mkF m 150 #[vI p0, vI p1, vI p2, vI p3, vI p4, vI p5, vI v1, vI v2, vR b4, vR b21, vR b38, vR b55, vR b72, vR b115, vR b120, vR b125, vR b130, vR b135, .unset, .unset, .unset, .unset, .unset, .unset, .unset, .unset] []))
   refine qb (fun _ k => XS.iload X161.here hx rfl (hb hby at_150) rfl k) ?_
   refine qb (fun _ k => XS.iconst X161.here hx rfl (hb hby at_152) k) ?_
   have hd175 : v1 < (4 : Int32) := (ob_0_130 f_CS p0 v1 v2 hn_CS hv1 hn0 hn5 hv2 c142 c173)
   refine qb (fun _ k => XS.icmpYes X161.here hx rfl (pc0 := 153) (pc' := 164) rfl (hb hby at_153) rfl (tlt hd175).1 (by decide) (by decide) k) ?_
   show qG p e below _ (T161.setTop (mkF m 164 #[vI p0, vI p1, vI p2, vI p3, vI p4, vI p5, vI v1, vI v2, vR b4, vR b21, vR b38, vR b55, vR b72, vR b115, vR b120, vR b125, vR b130, vR b135, .unset, .unset, .unset, .unset, .unset, .unset, .unset, .unset] []))
   have F177 := ((((((((((((((((P_Ca.keep Kq3 all0).keep Kq20 all0).keep Kq37 all0).keep Kq54 all0).keep Kq71 all0).ext E115).keep Kq116 (allS (qo A115 (by decide)) all0)).ext E120).keep Kq121 (allS (qo A120 (by decide)) all0)).ext E125).keep Kq126 (allS (qo A125 (by decide)) all0)).ext E130).keep Kq131 (allS (qo A130 (by decide)) all0)).ext E135).keep Kq137 (allS (qo A135 (by decide)) all0)).keep Kq161 (allS (qo (A135.keep Kq137) (by decide)) all0))
   have F178 := (((((((((((Ks0.ext E115).keep Kq116 (allS (qo A115 (by decide)) all0)).ext E120).keep Kq121 (allS (qo A120 (by decide)) all0)).ext E125).keep Kq126 (allS (qo A125 (by decide)) all0)).ext E130).keep Kq131 (allS (qo A130 (by decide)) all0)).ext E135).keep Kq137 (allS (qo A135 (by decide)) all0)).keep Kq161 (allS (qo (A135.keep Kq137) (by decide)) all0))
   have hk176 : (1 : Int32) = v1 := (ob_0_131 f_CS p0 v1 v2 hn_CS hv1 hn0 hn5 hv2 c142 c173)
   have Fs176 : Fld Z T161.heap b135 cAL "size" "I" (.int v1) := by rw [← hk176]; exact F167
   have F179 := (F149.keep Kq161)
   have nq180 := ne_exa F179 F164 (by decide)
   have F181 := (((((((((F118.ext E120).keep Kq121 (ninS (qn F117.lt (Nat.le_of_eq g120.symm)) nin0)).ext E125).keep Kq126 (ninS (qn (((F117.ext E120).keep Kq121)).lt (Nat.le_of_eq g125.symm)) nin0)).ext E130).keep Kq131 (ninS (qn (((((F117.ext E120).keep Kq121).ext E125).keep Kq126)).lt (Nat.le_of_eq g130.symm)) nin0)).ext E135).keep Kq137 (ninS nq180 nin0)).keep Kq161 (ninS nq180 nin0))
   have Al176 : own_Al Z T161.heap b135 v1 (own_K b4 b21 b38 b55 b72) := ⟨F164, Fs176, ⟨hn0, hn5⟩, Or.inr ⟨_, _, (qu (fun _ => Value.null) 0 (.ref b115)), F166, F170, F171, fun i hi => own_c1 (P := fun i => ∃ hit, (qu (fun _ => Value.null) 0 (.ref b115)) i = .ref hit ∧ Exa Z T161.heap hit cHT ∧ Fld Z T161.heap hit cHT "documentId" dST (.ref ((own_K b4 b21 b38 b55 b72) i))) ⟨b115, rfl, F179, F181⟩ (by rw [← hk176] at hi; exact hi)⟩⟩
   have F182 := (((((((((((F94.ext E115).keep Kq116).ext E120).keep Kq121).ext E125).keep Kq126).ext E130).keep Kq131).ext E135).keep Kq137).keep Kq161)
   have F183 := (((((((((((F101.ext E115).keep Kq116).ext E120).keep Kq121).ext E125).keep Kq126).ext E130).keep Kq131).ext E135).keep Kq137).keep Kq161)
   have F184 := (((((((((((F87.ext E115).keep Kq116).ext E120).keep Kq121).ext E125).keep Kq126).ext E130).keep Kq131).ext E135).keep Kq137).keep Kq161)
   have F185 := (((((((((((F108.ext E115).keep Kq116).ext E120).keep Kq121).ext E125).keep Kq126).ext E130).keep Kq131).ext E135).keep Kq137).keep Kq161)
   have F186 := (((((((((((F77.ext E115).keep Kq116).ext E120).keep Kq121).ext E125).keep Kq126).ext E130).keep Kq131).ext E135).keep Kq137).keep Kq161)
   have F187 := (F152.keep Kq161)
   have F188 := qk (qk ((qk ((qk ((qk ((qk ((qk F70 Kq71 all0).ext E115) Kq116 (allS (qx A115) all0)).ext E120) Kq121 (allS (qx A120) all0)).ext E125) Kq126 (allS (qx A125) all0)).ext E130) Kq131 (allS (qx A130) all0)).ext E135) Kq137 (allS (qx A135) all0)) Kq161 (allS (qx F138) all0)
   have F189 := qk (qk ((qk ((qk ((qk ((qk ((qk (qk (qk (qk (qk P_S_HI Kq3 all0) Kq20 all0) Kq37 all0) Kq54 all0) Kq71 all0).ext E115) Kq116 (allS (qx A115) all0)).ext E120) Kq121 (allS (qx A120) all0)).ext E125) Kq126 (allS (qx A125) all0)).ext E130) Kq131 (allS (qx A130) all0)).ext E135) Kq137 (allS (qx A135) all0)) Kq161 (allS (qx F138) all0)
   have F190 := qk (qk ((qk ((qk ((qk ((qk ((qk (qk (qk (qk (qk P_S_CA Kq3 all0) Kq20 all0) Kq37 all0) Kq54 all0) Kq71 all0).ext E115) Kq116 (allS (qx A115) all0)).ext E120) Kq121 (allS (qx A120) all0)).ext E125) Kq126 (allS (qx A125) all0)).ext E130) Kq131 (allS (qx A130) all0)).ext E135) Kq137 (allS (qx A135) all0)) Kq161 (allS (qx F138) all0)
   exact J256 _ _ _ X161 rfl N161 K161 Z161 F164 F182 F183 F184 F185 F186 F187 F188 F189 F190 F177 F178 Al176 (qn F26.lt hp42) (qm F9.lt hp25) (qm ((F9.keep Kq20)).lt hp42) (qn ((F26.keep Kq37)).lt hp59) (qn F43.lt hp59) (qn (((F9.keep Kq20).keep Kq37)).lt hp59) (qn (((F26.keep Kq37).keep Kq54)).lt hp76) (qn ((F43.keep Kq54)).lt hp76) (qn ((((F9.keep Kq20).keep Kq37).keep Kq54)).lt hp76) (qn F60.lt hp76) trivial
  ·skip
   refine qb (fun _ k => XS.icmpNo X161.here hx rfl (hb hby at_125) rfl (flt c173).1 k) ?_
   show qG p e below _ (T161.setTop (mkF m 128 #[vI p0, vI p1, vI p2, vI p3, vI p4, vI p5, vI v1, vI v2, vR b4, vR b21, vR b38, vR b55, vR b72, vR b115, vR b120, vR b125, vR b130, vR b135, .unset, .unset, .unset, .unset, .unset, .unset, .unset, .unset] []))
   refine qb (fun _ k => XS.aload X161.here hx rfl (hb hby at_128) rfl rfl k) ?_
   refine qb (fun _ k => XS.aload X161.here hx rfl (hb hby at_130) rfl rfl k) ?_
   have F182 := (F154.keep Kq161)
   obtain ⟨_, T183, Lc183, X183, hQ183, st183⟩ := own_cV X161 hx hZ hown hml (rmadds l Z A0 hw [] b162 b163 (qu (fun _ => Value.null) 0 (.ref b115)) (1 : Int32) (1 : Int32) b135 b120 T161.heap n0 Z161 F164 F165 F166 F167 F182 F171 hp172 (show ¬ ((1 : Int32) = (10 : Int32)) by decide) (show (¬ (1 : Int32) < 0) ∧ (1 : Int32) < (10 : Int32) by decide) ge_b135 hp168) (hwd 219 rfl) (hwd 221 rfl) (hwd 44 rfl) (hwd 223 rfl) (by decide) pd_219 rfl (hwd 220 rfl) (hwd 222 rfl) F164 (g := (mkF m 132 #[vI p0, vI p1, vI p2, vI p3, vI p4, vI p5, vI v1, vI v2, vR b4, vR b21, vR b38, vR b55, vR b72, vR b115, vR b120, vR b125, vR b130, vR b135, .unset, .unset, .unset, .unset, .unset, .unset, .unset, .unset] [(.ref b120), (.ref b135)])) (rest := []) rfl rfl rfl rfl (hb hby at_132) rfl
   obtain ⟨rfl, Nq183, Kq183, F184, F185, F186, F187, F188⟩ := hQ183
   have N183 := Fr.app N161 Nq183
   have K183 : Keep h0 T183.heap [] := K161.trans Kq183 ((allS (Or.inr sz_b135) (allS (Or.inr sz_b162) all0)))
   have Z183 := ql Z161 Kq183.1
   refine qb st183 ?_
   show qG p e below _ (T183.setTop (mkF m 135 #[vI p0, vI p1, vI p2, vI p3, vI p4, vI p5, vI v1, vI v2, vR b4, vR b21, vR b38, vR b55, vR b72, vR b115, vR b120, vR b125, vR b130, vR b135, .unset, .unset, .unset, .unset, .unset, .unset, .unset, .unset] [(.int 1)]))
   refine qb (fun _ k => XS.pop X183.here hx rfl (hb hby at_135) rfl rfl k) ?_
   refine qb (fun _ k => XS.iload X183.here hx rfl (hb hby at_136) rfl k) ?_
   refine qb (fun _ k => XS.iconst X183.here hx rfl (hb hby at_138) k) ?_
   by_cases c189 : v1 < (3 : Int32)
   ·skip
    refine qb (fun _ k => XS.icmpYes X183.here hx rfl (pc0 := 139) (pc' := 150) rfl (hb hby at_139) rfl (tlt c189).1 (by decide) (by decide) k) ?_
    show qG p e below _ (T183.setTop (mkF m 150 #[vI p0, vI p1, vI p2, vI p3, vI p4, vI p5, vI v1, vI v2, vR b4, vR b21, vR b38, vR b55, vR b72, vR b115, vR b120, vR b125, vR b130, vR b135, .unset, .unset, .unset, .unset, .unset, .unset, .unset, .unset] []))
    refine qb (fun _ k => XS.iload X183.here hx rfl (hb hby at_150) rfl k) ?_
    refine qb (fun _ k => XS.iconst X183.here hx rfl (hb hby at_152) k) ?_
    have hd190 : v1 < (4 : Int32) := (ob_0_132 f_CS p0 v1 v2 hn_CS hv1 hn0 hn5 hv2 c142 c173 c189)
    refine qb (fun _ k => XS.icmpYes X183.here hx rfl (pc0 := 153) (pc' := 164) rfl (hb hby at_153) rfl (tlt hd190).1 (by decide) (by decide) k) ?_
    show qG p e below _ (T183.setTop (mkF m 164 #[vI p0, vI p1, vI p2, vI p3, vI p4, vI p5, vI v1, vI v2, vR b4, vR b21, vR b38, vR b55, vR b72, vR b115, vR b120, vR b125, vR b130, vR b135, .unset, .unset, .unset, .unset, .unset, .unset, .unset, .unset] []))
    have F192 := (((((((((((((((((P_Ca.keep Kq3 all0).keep Kq20 all0).keep Kq37 all0).keep Kq54 all0).keep Kq71 all0).ext E115).keep Kq116 (allS (qo A115 (by decide)) all0)).ext E120).keep Kq121 (allS (qo A120 (by decide)) all0)).ext E125).keep Kq126 (allS (qo A125 (by decide)) all0)).ext E130).keep Kq131 (allS (qo A130 (by decide)) all0)).ext E135).keep Kq137 (allS (qo A135 (by decide)) all0)).keep Kq161 (allS (qo (A135.keep Kq137) (by decide)) all0)).keep Kq183 (allS (qo ((A135.keep Kq137).keep Kq161) (by decide)) (allS (qo F170 (by decide)) all0)))
    have F193 := ((((((((((((Ks0.ext E115).keep Kq116 (allS (qo A115 (by decide)) all0)).ext E120).keep Kq121 (allS (qo A120 (by decide)) all0)).ext E125).keep Kq126 (allS (qo A125 (by decide)) all0)).ext E130).keep Kq131 (allS (qo A130 (by decide)) all0)).ext E135).keep Kq137 (allS (qo A135 (by decide)) all0)).keep Kq161 (allS (qo (A135.keep Kq137) (by decide)) all0)).keep Kq183 (allS (qo ((A135.keep Kq137).keep Kq161) (by decide)) (allS (qo F170 (by decide)) all0)))
    have hk191 : (2 : Int32) = v1 := (ob_0_133 f_CS p0 v1 v2 hn_CS hv1 hn0 hn5 hv2 c142 c173 c189)
    have Fs191 : Fld Z T183.heap b135 cAL "size" "I" (.int v1) := by rw [← hk191]; exact F187
    have F194 := ((F149.keep Kq161).keep Kq183)
    have nq195 := ne_exa F194 F184 (by decide)
    have F197 := (F170.keep Kq183)
    have nq196 := ne_exa F194 F197 (by decide)
    have F198 := ((((((((((F118.ext E120).keep Kq121 (ninS (qn F117.lt (Nat.le_of_eq g120.symm)) nin0)).ext E125).keep Kq126 (ninS (qn (((F117.ext E120).keep Kq121)).lt (Nat.le_of_eq g125.symm)) nin0)).ext E130).keep Kq131 (ninS (qn (((((F117.ext E120).keep Kq121).ext E125).keep Kq126)).lt (Nat.le_of_eq g130.symm)) nin0)).ext E135).keep Kq137 (ninS nq195 nin0)).keep Kq161 (ninS nq195 nin0)).keep Kq183 (ninS nq195 (ninS nq196 nin0)))
    have F199 := (F182.keep Kq183)
    have nq200 := ne_exa F199 F184 (by decide)
    have nq201 := ne_exa F199 F197 (by decide)
    have F202 := ((((((((F123.ext E125).keep Kq126 (ninS (qn F122.lt (Nat.le_of_eq g125.symm)) nin0)).ext E130).keep Kq131 (ninS (qn (((F122.ext E125).keep Kq126)).lt (Nat.le_of_eq g130.symm)) nin0)).ext E135).keep Kq137 (ninS nq200 nin0)).keep Kq161 (ninS nq200 nin0)).keep Kq183 (ninS nq200 (ninS nq201 nin0)))
    have Al191 : own_Al Z T183.heap b135 v1 (own_K b4 b21 b38 b55 b72) := ⟨F184, Fs191, ⟨hn0, hn5⟩, Or.inr ⟨_, _, (qu (qu (fun _ => Value.null) 0 (.ref b115)) 1 (.ref b120)), F186, F197, F188, fun i hi => own_c2 (P := fun i => ∃ hit, (qu (qu (fun _ => Value.null) 0 (.ref b115)) 1 (.ref b120)) i = .ref hit ∧ Exa Z T183.heap hit cHT ∧ Fld Z T183.heap hit cHT "documentId" dST (.ref ((own_K b4 b21 b38 b55 b72) i))) ⟨b115, rfl, F194, F198⟩ ⟨b120, rfl, F199, F202⟩ (by rw [← hk191] at hi; exact hi)⟩⟩
    have F203 := ((((((((((((F94.ext E115).keep Kq116).ext E120).keep Kq121).ext E125).keep Kq126).ext E130).keep Kq131).ext E135).keep Kq137).keep Kq161).keep Kq183)
    have F204 := ((((((((((((F101.ext E115).keep Kq116).ext E120).keep Kq121).ext E125).keep Kq126).ext E130).keep Kq131).ext E135).keep Kq137).keep Kq161).keep Kq183)
    have F205 := ((((((((((((F87.ext E115).keep Kq116).ext E120).keep Kq121).ext E125).keep Kq126).ext E130).keep Kq131).ext E135).keep Kq137).keep Kq161).keep Kq183)
    have F206 := ((((((((((((F108.ext E115).keep Kq116).ext E120).keep Kq121).ext E125).keep Kq126).ext E130).keep Kq131).ext E135).keep Kq137).keep Kq161).keep Kq183)
    have F207 := ((((((((((((F77.ext E115).keep Kq116).ext E120).keep Kq121).ext E125).keep Kq126).ext E130).keep Kq131).ext E135).keep Kq137).keep Kq161).keep Kq183)
    have F208 := ((F152.keep Kq161).keep Kq183)
    have F209 := qk (qk (qk ((qk ((qk ((qk ((qk ((qk F70 Kq71 all0).ext E115) Kq116 (allS (qx A115) all0)).ext E120) Kq121 (allS (qx A120) all0)).ext E125) Kq126 (allS (qx A125) all0)).ext E130) Kq131 (allS (qx A130) all0)).ext E135) Kq137 (allS (qx A135) all0)) Kq161 (allS (qx F138) all0)) Kq183 (allS (qx F164) (allS (qx F170) all0))
    have F210 := qk (qk (qk ((qk ((qk ((qk ((qk ((qk (qk (qk (qk (qk P_S_HI Kq3 all0) Kq20 all0) Kq37 all0) Kq54 all0) Kq71 all0).ext E115) Kq116 (allS (qx A115) all0)).ext E120) Kq121 (allS (qx A120) all0)).ext E125) Kq126 (allS (qx A125) all0)).ext E130) Kq131 (allS (qx A130) all0)).ext E135) Kq137 (allS (qx A135) all0)) Kq161 (allS (qx F138) all0)) Kq183 (allS (qx F164) (allS (qx F170) all0))
    have F211 := qk (qk (qk ((qk ((qk ((qk ((qk ((qk (qk (qk (qk (qk P_S_CA Kq3 all0) Kq20 all0) Kq37 all0) Kq54 all0) Kq71 all0).ext E115) Kq116 (allS (qx A115) all0)).ext E120) Kq121 (allS (qx A120) all0)).ext E125) Kq126 (allS (qx A125) all0)).ext E130) Kq131 (allS (qx A130) all0)).ext E135) Kq137 (allS (qx A135) all0)) Kq161 (allS (qx F138) all0)) Kq183 (allS (qx F164) (allS (qx F170) all0))
    exact J256 _ _ _ X183 rfl N183 K183 Z183 F184 F203 F204 F205 F206 F207 F208 F209 F210 F211 F192 F193 Al191 (qn F26.lt hp42) (qm F9.lt hp25) (qm ((F9.keep Kq20)).lt hp42) (qn ((F26.keep Kq37)).lt hp59) (qn F43.lt hp59) (qn (((F9.keep Kq20).keep Kq37)).lt hp59) (qn (((F26.keep Kq37).keep Kq54)).lt hp76) (qn ((F43.keep Kq54)).lt hp76) (qn ((((F9.keep Kq20).keep Kq37).keep Kq54)).lt hp76) (qn F60.lt hp76) trivial
   ·skip
    refine qb (fun _ k => XS.icmpNo X183.here hx rfl (hb hby at_139) rfl (flt c189).1 k) ?_
    show qG p e below _ (T183.setTop (mkF m 142 #[vI p0, vI p1, vI p2, vI p3, vI p4, vI p5, vI v1, vI v2, vR b4, vR b21, vR b38, vR b55, vR b72, vR b115, vR b120, vR b125, vR b130, vR b135, .unset, .unset, .unset, .unset, .unset, .unset, .unset, .unset] []))
    refine qb (fun _ k => XS.aload X183.here hx rfl (hb hby at_142) rfl rfl k) ?_
    refine qb (fun _ k => XS.aload X183.here hx rfl (hb hby at_144) rfl rfl k) ?_
    have F203 := ((F156.keep Kq161).keep Kq183)
    have F204 := (F170.keep Kq183)
    obtain ⟨_, T205, Lc205, X205, hQ205, st205⟩ := own_cV X183 hx hZ hown hml (rmadds l Z A0 hw [] b162 b163 (qu (qu (fun _ => Value.null) 0 (.ref b115)) 1 (.ref b120)) (2 : Int32) (2 : Int32) b135 b125 T183.heap n0 Z183 F184 F185 F186 F187 F203 F188 hp172 (show ¬ ((2 : Int32) = (10 : Int32)) by decide) (show (¬ (2 : Int32) < 0) ∧ (2 : Int32) < (10 : Int32) by decide) ge_b135 hp168) (hwd 219 rfl) (hwd 221 rfl) (hwd 44 rfl) (hwd 223 rfl) (by decide) pd_219 rfl (hwd 220 rfl) (hwd 222 rfl) F184 (g := (mkF m 146 #[vI p0, vI p1, vI p2, vI p3, vI p4, vI p5, vI v1, vI v2, vR b4, vR b21, vR b38, vR b55, vR b72, vR b115, vR b120, vR b125, vR b130, vR b135, .unset, .unset, .unset, .unset, .unset, .unset, .unset, .unset] [(.ref b125), (.ref b135)])) (rest := []) rfl rfl rfl rfl (hb hby at_146) rfl
    obtain ⟨rfl, Nq205, Kq205, F206, F207, F208, F209, F210⟩ := hQ205
    have N205 := Fr.app N183 Nq205
    have K205 : Keep h0 T205.heap [] := K183.trans Kq205 ((allS (Or.inr sz_b135) (allS (Or.inr sz_b162) all0)))
    have Z205 := ql Z183 Kq205.1
    refine qb st205 ?_
    show qG p e below _ (T205.setTop (mkF m 149 #[vI p0, vI p1, vI p2, vI p3, vI p4, vI p5, vI v1, vI v2, vR b4, vR b21, vR b38, vR b55, vR b72, vR b115, vR b120, vR b125, vR b130, vR b135, .unset, .unset, .unset, .unset, .unset, .unset, .unset, .unset] [(.int 1)]))
    refine qb (fun _ k => XS.pop X205.here hx rfl (hb hby at_149) rfl rfl k) ?_
    refine qb (fun _ k => XS.iload X205.here hx rfl (hb hby at_150) rfl k) ?_
    refine qb (fun _ k => XS.iconst X205.here hx rfl (hb hby at_152) k) ?_
    by_cases c211 : v1 < (4 : Int32)
    ·skip
     refine qb (fun _ k => XS.icmpYes X205.here hx rfl (pc0 := 153) (pc' := 164) rfl (hb hby at_153) rfl (tlt c211).1 (by decide) (by decide) k) ?_
     show qG p e below _ (T205.setTop (mkF m 164 #[vI p0, vI p1, vI p2, vI p3, vI p4, vI p5, vI v1, vI v2, vR b4, vR b21, vR b38, vR b55, vR b72, vR b115, vR b120, vR b125, vR b130, vR b135, .unset, .unset, .unset, .unset, .unset, .unset, .unset, .unset] []))
     have F213 := ((((((((((((((((((P_Ca.keep Kq3 all0).keep Kq20 all0).keep Kq37 all0).keep Kq54 all0).keep Kq71 all0).ext E115).keep Kq116 (allS (qo A115 (by decide)) all0)).ext E120).keep Kq121 (allS (qo A120 (by decide)) all0)).ext E125).keep Kq126 (allS (qo A125 (by decide)) all0)).ext E130).keep Kq131 (allS (qo A130 (by decide)) all0)).ext E135).keep Kq137 (allS (qo A135 (by decide)) all0)).keep Kq161 (allS (qo (A135.keep Kq137) (by decide)) all0)).keep Kq183 (allS (qo ((A135.keep Kq137).keep Kq161) (by decide)) (allS (qo F170 (by decide)) all0))).keep Kq205 (allS (qo (((A135.keep Kq137).keep Kq161).keep Kq183) (by decide)) (allS (qo (F170.keep Kq183) (by decide)) all0)))
     have F214 := (((((((((((((Ks0.ext E115).keep Kq116 (allS (qo A115 (by decide)) all0)).ext E120).keep Kq121 (allS (qo A120 (by decide)) all0)).ext E125).keep Kq126 (allS (qo A125 (by decide)) all0)).ext E130).keep Kq131 (allS (qo A130 (by decide)) all0)).ext E135).keep Kq137 (allS (qo A135 (by decide)) all0)).keep Kq161 (allS (qo (A135.keep Kq137) (by decide)) all0)).keep Kq183 (allS (qo ((A135.keep Kq137).keep Kq161) (by decide)) (allS (qo F170 (by decide)) all0))).keep Kq205 (allS (qo (((A135.keep Kq137).keep Kq161).keep Kq183) (by decide)) (allS (qo (F170.keep Kq183) (by decide)) all0)))
     have hk212 : (3 : Int32) = v1 := (ob_0_134 f_CS p0 v1 v2 hn_CS hv1 hn0 hn5 hv2 c142 c173 c189 c211)
     have Fs212 : Fld Z T205.heap b135 cAL "size" "I" (.int v1) := by rw [← hk212]; exact F209
     have F215 := (((F149.keep Kq161).keep Kq183).keep Kq205)
     have nq216 := ne_exa F215 F206 (by decide)
     have F218 := (F204.keep Kq205)
     have nq217 := ne_exa F215 F218 (by decide)
     have F219 := (((((((((((F118.ext E120).keep Kq121 (ninS (qn F117.lt (Nat.le_of_eq g120.symm)) nin0)).ext E125).keep Kq126 (ninS (qn (((F117.ext E120).keep Kq121)).lt (Nat.le_of_eq g125.symm)) nin0)).ext E130).keep Kq131 (ninS (qn (((((F117.ext E120).keep Kq121).ext E125).keep Kq126)).lt (Nat.le_of_eq g130.symm)) nin0)).ext E135).keep Kq137 (ninS nq216 nin0)).keep Kq161 (ninS nq216 nin0)).keep Kq183 (ninS nq216 (ninS nq217 nin0))).keep Kq205 (ninS nq216 (ninS nq217 nin0)))
     have F220 := ((F182.keep Kq183).keep Kq205)
     have nq221 := ne_exa F220 F206 (by decide)
     have nq222 := ne_exa F220 F218 (by decide)
     have F223 := (((((((((F123.ext E125).keep Kq126 (ninS (qn F122.lt (Nat.le_of_eq g125.symm)) nin0)).ext E130).keep Kq131 (ninS (qn (((F122.ext E125).keep Kq126)).lt (Nat.le_of_eq g130.symm)) nin0)).ext E135).keep Kq137 (ninS nq221 nin0)).keep Kq161 (ninS nq221 nin0)).keep Kq183 (ninS nq221 (ninS nq222 nin0))).keep Kq205 (ninS nq221 (ninS nq222 nin0)))
     have F224 := (F203.keep Kq205)
     have nq225 := ne_exa F224 F206 (by decide)
     have nq226 := ne_exa F224 F218 (by decide)
     have F227 := (((((((F128.ext E130).keep Kq131 (ninS (qn F127.lt (Nat.le_of_eq g130.symm)) nin0)).ext E135).keep Kq137 (ninS nq225 nin0)).keep Kq161 (ninS nq225 nin0)).keep Kq183 (ninS nq225 (ninS nq226 nin0))).keep Kq205 (ninS nq225 (ninS nq226 nin0)))
     have Al212 : own_Al Z T205.heap b135 v1 (own_K b4 b21 b38 b55 b72) := ⟨F206, Fs212, ⟨hn0, hn5⟩, Or.inr ⟨_, _, (qu (qu (qu (fun _ => Value.null) 0 (.ref b115)) 1 (.ref b120)) 2 (.ref b125)), F208, F218, F210, fun i hi => own_c3 (P := fun i => ∃ hit, (qu (qu (qu (fun _ => Value.null) 0 (.ref b115)) 1 (.ref b120)) 2 (.ref b125)) i = .ref hit ∧ Exa Z T205.heap hit cHT ∧ Fld Z T205.heap hit cHT "documentId" dST (.ref ((own_K b4 b21 b38 b55 b72) i))) ⟨b115, rfl, F215, F219⟩ ⟨b120, rfl, F220, F223⟩ ⟨b125, rfl, F224, F227⟩ (by rw [← hk212] at hi; exact hi)⟩⟩
     have F228 := (((((((((((((F94.ext E115).keep Kq116).ext E120).keep Kq121).ext E125).keep Kq126).ext E130).keep Kq131).ext E135).keep Kq137).keep Kq161).keep Kq183).keep Kq205)
     have F229 := (((((((((((((F101.ext E115).keep Kq116).ext E120).keep Kq121).ext E125).keep Kq126).ext E130).keep Kq131).ext E135).keep Kq137).keep Kq161).keep Kq183).keep Kq205)
     have F230 := (((((((((((((F87.ext E115).keep Kq116).ext E120).keep Kq121).ext E125).keep Kq126).ext E130).keep Kq131).ext E135).keep Kq137).keep Kq161).keep Kq183).keep Kq205)
     have F231 := (((((((((((((F108.ext E115).keep Kq116).ext E120).keep Kq121).ext E125).keep Kq126).ext E130).keep Kq131).ext E135).keep Kq137).keep Kq161).keep Kq183).keep Kq205)
     have F232 := (((((((((((((F77.ext E115).keep Kq116).ext E120).keep Kq121).ext E125).keep Kq126).ext E130).keep Kq131).ext E135).keep Kq137).keep Kq161).keep Kq183).keep Kq205)
     have F233 := (((F152.keep Kq161).keep Kq183).keep Kq205)
     have F234 := qk (qk (qk (qk ((qk ((qk ((qk ((qk ((qk F70 Kq71 all0).ext E115) Kq116 (allS (qx A115) all0)).ext E120) Kq121 (allS (qx A120) all0)).ext E125) Kq126 (allS (qx A125) all0)).ext E130) Kq131 (allS (qx A130) all0)).ext E135) Kq137 (allS (qx A135) all0)) Kq161 (allS (qx F138) all0)) Kq183 (allS (qx F164) (allS (qx F170) all0))) Kq205 (allS (qx F184) (allS (qx F204) all0))
     have F235 := qk (qk (qk (qk ((qk ((qk ((qk ((qk ((qk (qk (qk (qk (qk P_S_HI Kq3 all0) Kq20 all0) Kq37 all0) Kq54 all0) Kq71 all0).ext E115) Kq116 (allS (qx A115) all0)).ext E120) Kq121 (allS (qx A120) all0)).ext E125) Kq126 (allS (qx A125) all0)).ext E130) Kq131 (allS (qx A130) all0)).ext E135) Kq137 (allS (qx A135) all0)) Kq161 (allS (qx F138) all0)) Kq183 (allS (qx F164) (allS (qx F170) all0))) Kq205 (allS (qx F184) (allS (qx F204) all0))
     have F236 := qk (qk (qk (qk ((qk ((qk ((qk ((qk ((qk (qk (qk (qk (qk P_S_CA Kq3 all0) Kq20 all0) Kq37 all0) Kq54 all0) Kq71 all0).ext E115) Kq116 (allS (qx A115) all0)).ext E120) Kq121 (allS (qx A120) all0)).ext E125) Kq126 (allS (qx A125) all0)).ext E130) Kq131 (allS (qx A130) all0)).ext E135) Kq137 (allS (qx A135) all0)) Kq161 (allS (qx F138) all0)) Kq183 (allS (qx F164) (allS (qx F170) all0))) Kq205 (allS (qx F184) (allS (qx F204) all0))
     exact J256 _ _ _ X205 rfl N205 K205 Z205 F206 F228 F229 F230 F231 F232 F233 F234 F235 F236 F213 F214 Al212 (qn F26.lt hp42) (qm F9.lt hp25) (qm ((F9.keep Kq20)).lt hp42) (qn ((F26.keep Kq37)).lt hp59) (qn F43.lt hp59) (qn (((F9.keep Kq20).keep Kq37)).lt hp59) (qn (((F26.keep Kq37).keep Kq54)).lt hp76) (qn ((F43.keep Kq54)).lt hp76) (qn ((((F9.keep Kq20).keep Kq37).keep Kq54)).lt hp76) (qn F60.lt hp76) trivial
    ·skip
     refine qb (fun _ k => XS.icmpNo X205.here hx rfl (hb hby at_153) rfl (flt c211).1 k) ?_
     show qG p e below _ (T205.setTop (mkF m 156 #[vI p0, vI p1, vI p2, vI p3, vI p4, vI p5, vI v1, vI v2, vR b4, vR b21, vR b38, vR b55, vR b72, vR b115, vR b120, vR b125, vR b130, vR b135, .unset, .unset, .unset, .unset, .unset, .unset, .unset, .unset] []))
     refine qb (fun _ k => XS.aload X205.here hx rfl (hb hby at_156) rfl rfl k) ?_
     refine qb (fun _ k => XS.aload X205.here hx rfl (hb hby at_158) rfl rfl k) ?_
     have F228 := (((F158.keep Kq161).keep Kq183).keep Kq205)
     have F229 := (F204.keep Kq205)
     obtain ⟨_, T230, Lc230, X230, hQ230, st230⟩ := own_cV X205 hx hZ hown hml (rmadds l Z A0 hw [] b162 b163 (qu (qu (qu (fun _ => Value.null) 0 (.ref b115)) 1 (.ref b120)) 2 (.ref b125)) (3 : Int32) (3 : Int32) b135 b130 T205.heap n0 Z205 F206 F207 F208 F209 F228 F210 hp172 (show ¬ ((3 : Int32) = (10 : Int32)) by decide) (show (¬ (3 : Int32) < 0) ∧ (3 : Int32) < (10 : Int32) by decide) ge_b135 hp168) (hwd 219 rfl) (hwd 221 rfl) (hwd 44 rfl) (hwd 223 rfl) (by decide) pd_219 rfl (hwd 220 rfl) (hwd 222 rfl) F206 (g := (mkF m 160 #[vI p0, vI p1, vI p2, vI p3, vI p4, vI p5, vI v1, vI v2, vR b4, vR b21, vR b38, vR b55, vR b72, vR b115, vR b120, vR b125, vR b130, vR b135, .unset, .unset, .unset, .unset, .unset, .unset, .unset, .unset] [(.ref b130), (.ref b135)])) (rest := []) rfl rfl rfl rfl (hb hby at_160) rfl
     obtain ⟨rfl, Nq230, Kq230, F231, F232, F233, F234, F235⟩ := hQ230
     have N230 := Fr.app N205 Nq230
     have K230 : Keep h0 T230.heap [] := K205.trans Kq230 ((allS (Or.inr sz_b135) (allS (Or.inr sz_b162) all0)))
     have Z230 := ql Z205 Kq230.1
     refine qb st230 ?_
     show qG p e below _ (T230.setTop (mkF m 163 #[vI p0, vI p1, vI p2, vI p3, vI p4, vI p5, vI v1, vI v2, vR b4, vR b21, vR b38, vR b55, vR b72, vR b115, vR b120, vR b125, vR b130, vR b135, .unset, .unset, .unset, .unset, .unset, .unset, .unset, .unset] [(.int 1)]))
     refine qb (fun _ k => XS.pop X230.here hx rfl (hb hby at_163) rfl rfl k) ?_
     have F237 := (((((((((((((((((((P_Ca.keep Kq3 all0).keep Kq20 all0).keep Kq37 all0).keep Kq54 all0).keep Kq71 all0).ext E115).keep Kq116 (allS (qo A115 (by decide)) all0)).ext E120).keep Kq121 (allS (qo A120 (by decide)) all0)).ext E125).keep Kq126 (allS (qo A125 (by decide)) all0)).ext E130).keep Kq131 (allS (qo A130 (by decide)) all0)).ext E135).keep Kq137 (allS (qo A135 (by decide)) all0)).keep Kq161 (allS (qo (A135.keep Kq137) (by decide)) all0)).keep Kq183 (allS (qo ((A135.keep Kq137).keep Kq161) (by decide)) (allS (qo F170 (by decide)) all0))).keep Kq205 (allS (qo (((A135.keep Kq137).keep Kq161).keep Kq183) (by decide)) (allS (qo (F170.keep Kq183) (by decide)) all0))).keep Kq230 (allS (qo ((((A135.keep Kq137).keep Kq161).keep Kq183).keep Kq205) (by decide)) (allS (qo ((F170.keep Kq183).keep Kq205) (by decide)) all0)))
     have F238 := ((((((((((((((Ks0.ext E115).keep Kq116 (allS (qo A115 (by decide)) all0)).ext E120).keep Kq121 (allS (qo A120 (by decide)) all0)).ext E125).keep Kq126 (allS (qo A125 (by decide)) all0)).ext E130).keep Kq131 (allS (qo A130 (by decide)) all0)).ext E135).keep Kq137 (allS (qo A135 (by decide)) all0)).keep Kq161 (allS (qo (A135.keep Kq137) (by decide)) all0)).keep Kq183 (allS (qo ((A135.keep Kq137).keep Kq161) (by decide)) (allS (qo F170 (by decide)) all0))).keep Kq205 (allS (qo (((A135.keep Kq137).keep Kq161).keep Kq183) (by decide)) (allS (qo (F170.keep Kq183) (by decide)) all0))).keep Kq230 (allS (qo ((((A135.keep Kq137).keep Kq161).keep Kq183).keep Kq205) (by decide)) (allS (qo ((F170.keep Kq183).keep Kq205) (by decide)) all0)))
     have hk236 : (4 : Int32) = v1 := (ob_0_135 f_CS p0 v1 v2 hn_CS hv1 hn0 hn5 hv2 c142 c173 c189 c211)
     have Fs236 : Fld Z T230.heap b135 cAL "size" "I" (.int v1) := by rw [← hk236]; exact F234
     have F239 := ((((F149.keep Kq161).keep Kq183).keep Kq205).keep Kq230)
     have nq240 := ne_exa F239 F231 (by decide)
     have F242 := (F229.keep Kq230)
     have nq241 := ne_exa F239 F242 (by decide)
     have F243 := ((((((((((((F118.ext E120).keep Kq121 (ninS (qn F117.lt (Nat.le_of_eq g120.symm)) nin0)).ext E125).keep Kq126 (ninS (qn (((F117.ext E120).keep Kq121)).lt (Nat.le_of_eq g125.symm)) nin0)).ext E130).keep Kq131 (ninS (qn (((((F117.ext E120).keep Kq121).ext E125).keep Kq126)).lt (Nat.le_of_eq g130.symm)) nin0)).ext E135).keep Kq137 (ninS nq240 nin0)).keep Kq161 (ninS nq240 nin0)).keep Kq183 (ninS nq240 (ninS nq241 nin0))).keep Kq205 (ninS nq240 (ninS nq241 nin0))).keep Kq230 (ninS nq240 (ninS nq241 nin0)))
     have F244 := (((F182.keep Kq183).keep Kq205).keep Kq230)
     have nq245 := ne_exa F244 F231 (by decide)
     have nq246 := ne_exa F244 F242 (by decide)
     have F247 := ((((((((((F123.ext E125).keep Kq126 (ninS (qn F122.lt (Nat.le_of_eq g125.symm)) nin0)).ext E130).keep Kq131 (ninS (qn (((F122.ext E125).keep Kq126)).lt (Nat.le_of_eq g130.symm)) nin0)).ext E135).keep Kq137 (ninS nq245 nin0)).keep Kq161 (ninS nq245 nin0)).keep Kq183 (ninS nq245 (ninS nq246 nin0))).keep Kq205 (ninS nq245 (ninS nq246 nin0))).keep Kq230 (ninS nq245 (ninS nq246 nin0)))
     have F248 := ((F203.keep Kq205).keep Kq230)
     have nq249 := ne_exa F248 F231 (by decide)
     have nq250 := ne_exa F248 F242 (by decide)
     have F251 := ((((((((F128.ext E130).keep Kq131 (ninS (qn F127.lt (Nat.le_of_eq g130.symm)) nin0)).ext E135).keep Kq137 (ninS nq249 nin0)).keep Kq161 (ninS nq249 nin0)).keep Kq183 (ninS nq249 (ninS nq250 nin0))).keep Kq205 (ninS nq249 (ninS nq250 nin0))).keep Kq230 (ninS nq249 (ninS nq250 nin0)))
     have F252 := (F228.keep Kq230)
     have nq253 := ne_exa F252 F231 (by decide)
     have nq254 := ne_exa F252 F242 (by decide)
     have F255 := ((((((F133.ext E135).keep Kq137 (ninS nq253 nin0)).keep Kq161 (ninS nq253 nin0)).keep Kq183 (ninS nq253 (ninS nq254 nin0))).keep Kq205 (ninS nq253 (ninS nq254 nin0))).keep Kq230 (ninS nq253 (ninS nq254 nin0)))
     have Al236 : own_Al Z T230.heap b135 v1 (own_K b4 b21 b38 b55 b72) := ⟨F231, Fs236, ⟨hn0, hn5⟩, Or.inr ⟨_, _, (qu (qu (qu (qu (fun _ => Value.null) 0 (.ref b115)) 1 (.ref b120)) 2 (.ref b125)) 3 (.ref b130)), F233, F242, F235, fun i hi => own_c4 (P := fun i => ∃ hit, (qu (qu (qu (qu (fun _ => Value.null) 0 (.ref b115)) 1 (.ref b120)) 2 (.ref b125)) 3 (.ref b130)) i = .ref hit ∧ Exa Z T230.heap hit cHT ∧ Fld Z T230.heap hit cHT "documentId" dST (.ref ((own_K b4 b21 b38 b55 b72) i))) ⟨b115, rfl, F239, F243⟩ ⟨b120, rfl, F244, F247⟩ ⟨b125, rfl, F248, F251⟩ ⟨b130, rfl, F252, F255⟩ (by rw [← hk236] at hi; exact hi)⟩⟩
     have F256 := ((((((((((((((F94.ext E115).keep Kq116).ext E120).keep Kq121).ext E125).keep Kq126).ext E130).keep Kq131).ext E135).keep Kq137).keep Kq161).keep Kq183).keep Kq205).keep Kq230)
     have F257 := ((((((((((((((F101.ext E115).keep Kq116).ext E120).keep Kq121).ext E125).keep Kq126).ext E130).keep Kq131).ext E135).keep Kq137).keep Kq161).keep Kq183).keep Kq205).keep Kq230)
     have F258 := ((((((((((((((F87.ext E115).keep Kq116).ext E120).keep Kq121).ext E125).keep Kq126).ext E130).keep Kq131).ext E135).keep Kq137).keep Kq161).keep Kq183).keep Kq205).keep Kq230)
     have F259 := ((((((((((((((F108.ext E115).keep Kq116).ext E120).keep Kq121).ext E125).keep Kq126).ext E130).keep Kq131).ext E135).keep Kq137).keep Kq161).keep Kq183).keep Kq205).keep Kq230)
     have F260 := ((((((((((((((F77.ext E115).keep Kq116).ext E120).keep Kq121).ext E125).keep Kq126).ext E130).keep Kq131).ext E135).keep Kq137).keep Kq161).keep Kq183).keep Kq205).keep Kq230)
     have F261 := ((((F152.keep Kq161).keep Kq183).keep Kq205).keep Kq230)
     have F262 := qk (qk (qk (qk (qk ((qk ((qk ((qk ((qk ((qk F70 Kq71 all0).ext E115) Kq116 (allS (qx A115) all0)).ext E120) Kq121 (allS (qx A120) all0)).ext E125) Kq126 (allS (qx A125) all0)).ext E130) Kq131 (allS (qx A130) all0)).ext E135) Kq137 (allS (qx A135) all0)) Kq161 (allS (qx F138) all0)) Kq183 (allS (qx F164) (allS (qx F170) all0))) Kq205 (allS (qx F184) (allS (qx F204) all0))) Kq230 (allS (qx F206) (allS (qx F229) all0))
     have F263 := qk (qk (qk (qk (qk ((qk ((qk ((qk ((qk ((qk (qk (qk (qk (qk P_S_HI Kq3 all0) Kq20 all0) Kq37 all0) Kq54 all0) Kq71 all0).ext E115) Kq116 (allS (qx A115) all0)).ext E120) Kq121 (allS (qx A120) all0)).ext E125) Kq126 (allS (qx A125) all0)).ext E130) Kq131 (allS (qx A130) all0)).ext E135) Kq137 (allS (qx A135) all0)) Kq161 (allS (qx F138) all0)) Kq183 (allS (qx F164) (allS (qx F170) all0))) Kq205 (allS (qx F184) (allS (qx F204) all0))) Kq230 (allS (qx F206) (allS (qx F229) all0))
     have F264 := qk (qk (qk (qk (qk ((qk ((qk ((qk ((qk ((qk (qk (qk (qk (qk P_S_CA Kq3 all0) Kq20 all0) Kq37 all0) Kq54 all0) Kq71 all0).ext E115) Kq116 (allS (qx A115) all0)).ext E120) Kq121 (allS (qx A120) all0)).ext E125) Kq126 (allS (qx A125) all0)).ext E130) Kq131 (allS (qx A130) all0)).ext E135) Kq137 (allS (qx A135) all0)) Kq161 (allS (qx F138) all0)) Kq183 (allS (qx F164) (allS (qx F170) all0))) Kq205 (allS (qx F184) (allS (qx F204) all0))) Kq230 (allS (qx F206) (allS (qx F229) all0))
     exact J256 _ _ _ X230 rfl N230 K230 Z230 F231 F256 F257 F258 F259 F260 F261 F262 F263 F264 F237 F238 Al236 (qn F26.lt hp42) (qm F9.lt hp25) (qm ((F9.keep Kq20)).lt hp42) (qn ((F26.keep Kq37)).lt hp59) (qn F43.lt hp59) (qn (((F9.keep Kq20).keep Kq37)).lt hp59) (qn (((F26.keep Kq37).keep Kq54)).lt hp76) (qn ((F43.keep Kq54)).lt hp76) (qn ((((F9.keep Kq20).keep Kq37).keep Kq54)).lt hp76) (qn F60.lt hp76) trivial
set_option maxRecDepth 65536 in
set_option maxHeartbeats 40000000 in
theorem comes_1 {Post : Tables → Env → Array Value → State → Outcome → State → Prop} (hpost : ∀ tb e args s v u, (limb_1_1.after args s (.returned v) u = true ∧ limb_1_2.after args s (.returned v) u = true ∧ True) → FrameEnd s (.returned v) u (Jvm.fieldLocs frame_1_writes args s ++ Jvm.arrayLocs frame_1_arrays args s ++ Jvm.staticLocs frame_1_statics s) 80 320 → Post tb e args s (.returned v) u) :
    ArmFor flags0 classFile x code maxLocals ret World_1 tables_1 room_1 Calls_1 rest_1 Pre_1 Post := by
  intro l hfl _ _ p e ha hc hk s m args below hf hA hF happ hP
  obtain ⟨hcalls, hrest, hpre⟩ := hP
  obtain ⟨-, -, -, hnamed, -, -, -, hat⟩ := (Spec.applies_iff hf).mp happ
  obtain ⟨hg, hn⟩ := and_e (Cond.before_iff.mp (show (Jvm.Cond.and given_1 narrow_1).before args s = true from hpre))
  obtain ⟨g0, r0⟩ := and_e hg
  obtain ⟨ga0, r1⟩ := and_e r0
  obtain ⟨ga1, r2⟩ := and_e r1
  obtain ⟨ga2, r3⟩ := and_e r2
  obtain ⟨ga3, r4⟩ := and_e r3
  obtain ⟨ga4, r5⟩ := and_e r4
  obtain ⟨w0, w1, w2, w3, w4, w5, rfl⟩ : ∃ w0 w1 w2 w3 w4 w5 : Value, args = #[w0, w1, w2, w3, w4, w5] := by
    have hs : args.size = 6 := by simpa [Cond.value, given_1] using g0
    obtain ⟨L⟩ := args
    match L, hs with
    | [w0, w1, w2, w3, w4, w5], _ => exact ⟨w0, w1, w2, w3, w4, w5, rfl⟩
  have hw := fun d (hd : d ∈ tables_1) => atoms_spec (ws := Jvm.Cond.code x code maxLocals ret :: tables_1) hat d (List.mem_cons_of_mem _ hd)
  have hwd := fun i {d : Jvm.Cond} (h : tables_1[i]? = some d) => hw d (List.mem_of_getElem? h)
  have hfit : Fit s := fun {y c} hc i hi => by
    obtain ⟨ha, rfl⟩ := Array.getElem?_eq_some_iff.mp hc
    have q := List.all_eq_true.mp ((Array.all_eq_true_iff_forall_mem.mp hF) _ (Array.getElem_mem ha)) i (List.mem_range.mpr hi)
    simpa [Array.getElem?_eq_getElem hi] using q
  obtain ⟨i0, ei0⟩ := is_v ga0
  obtain rfl : w0 = (.int i0) := Option.some.inj ei0
  obtain ⟨i1, ei1⟩ := is_v ga1
  obtain rfl : w1 = (.int i1) := Option.some.inj ei1
  obtain ⟨i2, ei2⟩ := is_v ga2
  obtain rfl : w2 = (.int i2) := Option.some.inj ei2
  obtain ⟨i3, ei3⟩ := is_v ga3
  obtain rfl : w3 = (.int i3) := Option.some.inj ei3
  obtain ⟨i4, ei4⟩ := is_v ga4
  obtain rfl : w4 = (.int i4) := Option.some.inj ei4
  obtain ⟨i5, ei5⟩ := is_v r5
  obtain rfl : w5 = (.int i5) := Option.some.inj ei5
  obtain ⟨hsets, hown0⟩ := atoms_of _ (rest_1_c_eq ▸ (show rest_1_c.before _ s = true from hrest))
  have se0 := hsets _ (List.mem_of_getElem? (i := 0) rfl)
  have se1 := hsets _ (List.mem_of_getElem? (i := 1) rfl)
  have se2 := hsets _ (List.mem_of_getElem? (i := 2) rfl)
  have se11 := hsets _ (List.mem_of_getElem? (i := 11) rfl)
  have se15 := hsets _ (List.mem_of_getElem? (i := 15) rfl)
  have se16 := hsets _ (List.mem_of_getElem? (i := 16) rfl)
  have se17 := hsets _ (List.mem_of_getElem? (i := 17) rfl)
  have se19 := hsets _ (List.mem_of_getElem? (i := 19) rfl)
  have se20 := hsets _ (List.mem_of_getElem? (i := 20) rfl)
  have se21 := hsets _ (List.mem_of_getElem? (i := 21) rfl)
  have se22 := hsets _ (List.mem_of_getElem? (i := 22) rfl)
  have se23 := hsets _ (List.mem_of_getElem? (i := 23) rfl)
  have se24 := hsets _ (List.mem_of_getElem? (i := 24) rfl)
  have se25 := hsets _ (List.mem_of_getElem? (i := 25) rfl)
  obtain ⟨f_CS, ev0⟩ := is_v (Cond.before_iff.mp se1)
  have hn_CS : ¬ (f_CS = (0 : Int32)) := own_ne0 (Cond.before_iff.mp se2) ev0
  obtain ⟨f_DE, ev1⟩ := arr_v (Cond.before_iff.mp se15)
  obtain ⟨k_DE, fn_DE, V_DE⟩ := own_arf0 ev1 (Cond.before_iff.mp se15) (Cond.before_iff.mp se17)
  have ev2 := own_eqV (Cond.before_iff.mp se21)
  obtain ⟨f_CA, ev3⟩ := arr_v (Cond.before_iff.mp se22)
  obtain ⟨k_CA, fn_CA, V_CA⟩ := own_caS ev3 (Cond.before_iff.mp se22) (Cond.before_iff.mp se23) (Cond.before_iff.mp se24) (Cond.before_iff.mp se25)
  obtain ⟨n, o, h1, h2, h3, _, L, rfl, ⟨rfl, N⟩, hq⟩ := rm0 l s _ hw tables_1 f_CS f_DE k_DE fn_DE f_CA k_CA fn_CA i0 i1 i2 i3 i4 i5 s.heap s.heap.size (Nat.le_refl _) (Sta.start ev0 (Or.inl se0)) hn_CS (Sta.start ev1 (Or.inr ⟨(hwd 44 rfl), se11⟩)) V_DE (Exa.start ev1 (Cond.before_iff.mp se16)) (Sta.start ev2 (Or.inl se19)) (Sta.start ev3 (Or.inr ⟨(hwd 281 rfl), se20⟩)) V_CA p e ha hc hk s m _ below hf ((Spec.applies_iff_loose hf).mp happ).1 ⟨rfl, State.Warmed39.refl s, rfl⟩ trivial
  refine ⟨n, _, h1, h2, h3, hpost _ _ _ _ _ _ ⟨Cond.after_iff.mpr rfl, Cond.after_iff.mpr (eq_i res_at (Term.int_eval (1)) rfl), trivial⟩ ⟨hq.1, hq.2.1, (hq.2.2.sift fun y hy => Or.inr (N y hy)).mono (by decide) (by decide)⟩⟩
theorem main_1_1 : Claimed_1_1 := comes_1 fun _ _ _ _ _ _ h hF => ⟨h.1, hF⟩
theorem main_1_2 : Claimed_1_2 := comes_1 fun _ _ _ _ _ _ h hF => ⟨h.2.1, hF⟩
end Jvm.Pilot.@@N@@
namespace Jvm.Pilot.@@N@@
open Jvm Jvm.ClassFile Sem Op Lib Jvm.Free Jvm.Stand Jvm.Pilot.@@N@@.Jvm.D
/-! MADE BY PROGRAM (witnessworld.py) out of the Statement's table words and the real class files: 47 classes; the members and pool entries that the words name. The judged class is class 1, her method 1. -/
namespace start1
open Jvm.ClassFile
def u (s : String) : CpInfo := .utf8 (stringToUtf16 s)
/-- a pool by its gaps: so many unusable entries, then the entry; so many at the end -/
def gap : Nat → List CpInfo → List CpInfo
  | 0, r => r
  | n + 1, r => .unusable :: gap n r
def poolList (es : List (Nat × CpInfo)) (last : Nat) : List CpInfo := es.foldr (fun e r => gap e.1 (e.2 :: r)) (gap last [])
def pool (es : List (Nat × CpInfo)) (last : Nat) : Array CpInfo := ⟨poolList es last⟩
def fileOf (pool : Array CpInfo) (this : Nat) (attrs : Array Attribute := #[]) (ms : Array MethodInfo := #[]) (fl : Nat := 33) (sup : Nat := 0) (ifs : Array Nat := #[]) (fds : Array FieldInfo := #[]) : ClassFile where
  minorVersion := 0
  majorVersion := 65
  constantPool := pool
  accessFlags := fl
  thisClass := this
  superClass := sup
  interfaces := ifs
  fields := fds
  methods := ms
  attributes := attrs
def plain (name : String) (sup : Option ClassId) : Class where
  name := name
  kind := .ordinary
  loader := none
  accessFlags := 33
  super := sup
  interfaces := #[]
  cf := none
  fields := #[]
  methods := #[]
  instanceTypes := #[]
  staticTypes := #[]
  resolved := #[]
  callSites := []
  init := .initialized
  statics := none
  mirror := none

def pool0 : Array CpInfo := pool [(5, u "<init>"), (0, u "()V"), (1, .class_ 10), (1, u "java/lang/Object"), (16, u "hashCode"), (0, u "()I"), (67, u "clone"), (0, u "()Ljava/lang/Object;")] 26

def k0c0 : Code := { maxStack := 0, maxLocals := 1, code := object_method_1_code, exceptionTable := #[], attributes := #[] }
def k0m0 : Method := { name := "<init>", desc := "()V", sig := { parameters := [], returnType := none }, accessFlags := 1, code := some k0c0 }
def k0m1 : Method := { name := "hashCode", desc := "()I", sig := { parameters := [], returnType := some .int }, accessFlags := 257, code := none }
def k0m2 : Method := { name := "clone", desc := "()Ljava/lang/Object;", sig := { parameters := [], returnType := some (.object "java/lang/Object") }, accessFlags := 260, code := none }
/-- java/lang/Object -/
def k0 : Class := { plain "java/lang/Object" none with
  accessFlags := 33
  interfaces := #[]
  cf := some (fileOf pool0 8 #[] #[{ accessFlags := 1, nameIndex := 5, descriptorIndex := 6, attributes := #[] }, { accessFlags := 257, nameIndex := 27, descriptorIndex := 28, attributes := #[] }, { accessFlags := 260, nameIndex := 96, descriptorIndex := 97, attributes := #[] }] 33 0 #[] #[])
  fields := #[]
  methods := #[k0m0, k0m1, k0m2]
  instanceTypes := #[]
  staticTypes := #[]
  resolved := Array.replicate 124 none
  statics := none }

def pool1 : Array CpInfo := pool [(2, .class_ 4), (0, .nameAndType 5 6), (0, u "java/lang/Object"), (0, u "<init>"), (0, u "()V"), (0, .methodref 8 9), (0, .class_ 10), (0, .nameAndType 11 12), (0, u "java/lang/String"), (0, u "valueOf"), (0, u "(C)Ljava/lang/String;"), (0, .class_ 14), (0, u "com/example/libacross/libacross/format/Hit"), (0, .methodref 13 16), (0, .nameAndType 5 17), (0, u "(Ljava/lang/String;D)V"), (0, .class_ 19), (0, u "java/util/ArrayList"), (0, .methodref 18 3), (0, .methodref 18 22), (0, .nameAndType 23 24), (0, u "add"), (0, u "(Ljava/lang/Object;)Z"), (0, .class_ 26), (0, u "java/util/HashMap"), (0, .methodref 25 3), (0, .methodref 29 30), (0, .class_ 31), (0, .nameAndType 11 32), (0, u "java/lang/Integer"), (0, u "(I)Ljava/lang/Integer;"), (0, .methodref 25 34), (0, .nameAndType 35 36), (0, u "put"), (0, u "(Ljava/lang/Object;Ljava/lang/Object;)Ljava/lang/Object;"), (0, .methodref 38 39), (0, .class_ 40), (0, .nameAndType 41 42), (0, u "com/example/libacross/libacross/eval/JudgedRankingReciprocalRankPinLaw"), (0, u "expected"), (0, u "(IIIII)D"), (0, .class_ 44), (0, u "com/example/libacross/libacross/eval/JudgedRanking"), (0, .methodref 43 46), (0, .nameAndType 5 47), (0, u "(Ljava/util/List;Ljava/util/Map;)V"), (0, .methodref 43 49), (0, .nameAndType 50 51), (0, u "reciprocalRank"), (0, u "()D"), (0, .double 4602678819172646912), (1, .double 4599676419421066581), (1, .double 4598175219545276416), (3, u "law"), (0, u "(IIIIII)Z")] 3

def k1m0 : Method := { name := "<init>", desc := "()V", sig := { parameters := [], returnType := none }, accessFlags := 1, code := none }
def k1c1 : Code := { maxStack := 5, maxLocals := 26, code := code, exceptionTable := #[], attributes := #[] }
def k1m1 : Method := { name := "law", desc := "(IIIIII)Z", sig := { parameters := [.int, .int, .int, .int, .int, .int], returnType := some .boolean }, accessFlags := 9, code := some k1c1 }
def k1c2 : Code := { maxStack := 2, maxLocals := 5, code := method_3_code, exceptionTable := #[], attributes := #[] }
def k1m2 : Method := { name := "expected", desc := "(IIIII)D", sig := { parameters := [.int, .int, .int, .int, .int], returnType := some .double }, accessFlags := 10, code := some k1c2 }
/-- com/example/libacross/libacross/eval/JudgedRankingReciprocalRankPinLaw -/
def k1 : Class := { plain "com/example/libacross/libacross/eval/JudgedRankingReciprocalRankPinLaw" (some 0) with
  accessFlags := 49
  interfaces := #[]
  cf := some (fileOf pool1 38 #[] #[{ accessFlags := 1, nameIndex := 5, descriptorIndex := 6, attributes := #[] }, { accessFlags := 9, nameIndex := 60, descriptorIndex := 61, attributes := #[] }, { accessFlags := 10, nameIndex := 41, descriptorIndex := 42, attributes := #[] }] 49 2 #[] #[])
  fields := #[]
  methods := #[k1m0, k1m1, k1m2]
  instanceTypes := #[]
  staticTypes := #[]
  resolved := Array.replicate 65 none
  statics := none }

def pool2 : Array CpInfo := pool [(1, .class_ 2), (0, u "java/io/Serializable"), (0, .class_ 4), (0, u "java/lang/Object")] 2

/-- java/io/Serializable -/
def k2 : Class := { plain "java/io/Serializable" (some 0) with
  accessFlags := 1537
  interfaces := #[]
  cf := some (fileOf pool2 1 #[] #[] 1537 3 #[] #[])
  fields := #[]
  methods := #[]
  instanceTypes := #[]
  staticTypes := #[]
  resolved := Array.replicate 7 none
  statics := none }

def pool3 : Array CpInfo := pool [(1, .class_ 2), (0, u "java/lang/Comparable"), (0, .class_ 4), (0, u "java/lang/Object")] 7

/-- java/lang/Comparable -/
def k3 : Class := { plain "java/lang/Comparable" (some 0) with
  accessFlags := 1537
  interfaces := #[]
  cf := some (fileOf pool3 1 #[] #[] 1537 3 #[] #[])
  fields := #[]
  methods := #[]
  instanceTypes := #[]
  staticTypes := #[]
  resolved := Array.replicate 12 none
  statics := none }

def pool4 : Array CpInfo := pool [(2, .class_ 4), (1, u "java/lang/CharSequence"), (42, .class_ 48), (0, u "java/lang/CharSequence$1CodePointIterator"), (10, .class_ 60), (0, u "java/lang/CharSequence$1CharIterator"), (5, .class_ 67), (0, u "java/lang/Object")] 63

/-- java/lang/CharSequence -/
def k4 : Class := { plain "java/lang/CharSequence" (some 0) with
  accessFlags := 1537
  interfaces := #[]
  cf := some (fileOf pool4 2 #[.nestMembers #[47, 59]] #[] 1537 66 #[] #[])
  fields := #[]
  methods := #[]
  instanceTypes := #[]
  staticTypes := #[]
  resolved := Array.replicate 131 none
  statics := none }

def pool5 : Array CpInfo := pool [(1, .class_ 2), (0, u "java/lang/constant/Constable"), (0, .class_ 4), (0, u "java/lang/Object")] 6

/-- java/lang/constant/Constable -/
def k5 : Class := { plain "java/lang/constant/Constable" (some 0) with
  accessFlags := 1537
  interfaces := #[]
  cf := some (fileOf pool5 1 #[] #[] 1537 3 #[] #[])
  fields := #[]
  methods := #[]
  instanceTypes := #[]
  staticTypes := #[]
  resolved := Array.replicate 11 none
  statics := none }

def pool6 : Array CpInfo := pool [(1, .class_ 2), (0, u "java/lang/constant/ConstantDesc"), (0, .class_ 4), (0, u "java/lang/Object")] 32

/-- java/lang/constant/ConstantDesc -/
def k6 : Class := { plain "java/lang/constant/ConstantDesc" (some 0) with
  accessFlags := 1537
  interfaces := #[]
  cf := some (fileOf pool6 1 #[] #[] 1537 3 #[] #[])
  fields := #[]
  methods := #[]
  instanceTypes := #[]
  staticTypes := #[]
  resolved := Array.replicate 37 none
  statics := none }

def pool7 : Array CpInfo := pool [(1, .methodref 2 3), (0, .class_ 4), (0, .nameAndType 5 6), (0, u "java/lang/Object"), (0, u "<init>"), (0, u "()V"), (2, .fieldref 10 11), (0, .class_ 12), (0, .nameAndType 13 14), (0, u "java/lang/String"), (0, u "value"), (0, u "[B"), (0, .fieldref 10 16), (0, .nameAndType 17 18), (0, u "coder"), (0, u "B"), (0, .fieldref 10 20), (0, .nameAndType 21 22), (0, u "hash"), (0, u "I"), (0, .fieldref 10 24), (0, .nameAndType 25 26), (0, u "hashIsZero"), (0, u "Z"), (11, .fieldref 10 39), (0, .nameAndType 40 26), (0, u "COMPACT_STRINGS"), (12, u "toBytes"), (53, .class_ 109), (1, u "java/lang/StringLatin1"), (32, u "()Z"), (66, .methodref 10 210), (0, .nameAndType 5 211), (0, u "([BB)V"), (122, u "()I"), (34, u "(C)Z"), (122, .methodref 10 493), (0, .nameAndType 494 142), (0, u "isLatin1"), (80, .class_ 576), (0, u "java/lang/CharSequence"), (22, u "CASE_INSENSITIVE_ORDER"), (0, u "Ljava/util/Comparator;"), (27, .methodref 107 629), (0, .nameAndType 630 631), (0, u "hashCode"), (0, u "([B)I"), (150, u "valueOf"), (0, u "(C)Ljava/lang/String;"), (231, .methodref 107 1016), (0, .nameAndType 1017 369), (0, u "canEncode"), (0, .methodref 107 1019), (0, .nameAndType 53 1020), (0, u "(C)[B"), (80, u "serialPersistentFields"), (0, u "[Ljava/io/ObjectStreamField;"), (0, .class_ 1104), (0, u "java/lang/String$CaseInsensitiveComparator"), (1, .class_ 1107), (0, u "java/io/Serializable"), (0, .class_ 1109), (0, u "java/lang/Comparable"), (0, .class_ 1111), (0, u "java/lang/constant/Constable"), (0, .class_ 1113), (0, u "java/lang/constant/ConstantDesc"), (2, u "serialVersionUID"), (0, u "J"), (3, u "REPL"), (0, u "C"), (2, u "LATIN1"), (1, u "UTF16")] 323

def k7m0 : Method := { name := "<init>", desc := "()V", sig := { parameters := [], returnType := none }, accessFlags := 1, code := none }
def k7c1 : Code := { maxStack := 2, maxLocals := 2, code := jdk_42_method_78_code, exceptionTable := #[], attributes := #[] }
def k7m1 : Method := { name := "hashCode", desc := "()I", sig := { parameters := [], returnType := some .int }, accessFlags := 1, code := some k7c1 }
def k7c2 : Code := { maxStack := 4, maxLocals := 1, code := jdk_42_method_139_code, exceptionTable := #[], attributes := #[] }
def k7m2 : Method := { name := "valueOf", desc := "(C)Ljava/lang/String;", sig := { parameters := [.char], returnType := some (.object "java/lang/String") }, accessFlags := 9, code := some k7c2 }
def k7c3 : Code := { maxStack := 2, maxLocals := 3, code := jdk_42_method_151_code, exceptionTable := #[], attributes := #[] }
def k7m3 : Method := { name := "<init>", desc := "([BB)V", sig := { parameters := [(.array .byte), .byte], returnType := none }, accessFlags := 0, code := some k7c3 }
def k7c4 : Code := { maxStack := 1, maxLocals := 1, code := jdk_42_method_154_code, exceptionTable := #[], attributes := #[] }
def k7m4 : Method := { name := "isLatin1", desc := "()Z", sig := { parameters := [], returnType := some .boolean }, accessFlags := 0, code := some k7c4 }
/-- java/lang/String -/
def k7 : Class := { plain "java/lang/String" (some 0) with
  accessFlags := 49
  interfaces := #[2, 3, 4, 5, 6]
  cf := some (fileOf pool7 10 #[.nestMembers #[1103]] #[{ accessFlags := 1, nameIndex := 5, descriptorIndex := 6, attributes := #[] }, { accessFlags := 1, nameIndex := 630, descriptorIndex := 334, attributes := #[] }, { accessFlags := 9, nameIndex := 782, descriptorIndex := 783, attributes := #[] }, { accessFlags := 0, nameIndex := 5, descriptorIndex := 211, attributes := #[] }, { accessFlags := 0, nameIndex := 494, descriptorIndex := 142, attributes := #[] }] 49 2 #[1106, 1108, 575, 1110, 1112] #[{ accessFlags := 18, nameIndex := 13, descriptorIndex := 14, attributes := #[] }, { accessFlags := 18, nameIndex := 17, descriptorIndex := 18, attributes := #[] }, { accessFlags := 2, nameIndex := 21, descriptorIndex := 22, attributes := #[] }, { accessFlags := 2, nameIndex := 25, descriptorIndex := 26, attributes := #[] }, { accessFlags := 26, nameIndex := 1116, descriptorIndex := 1117, attributes := #[] }, { accessFlags := 24, nameIndex := 40, descriptorIndex := 26, attributes := #[] }, { accessFlags := 26, nameIndex := 1101, descriptorIndex := 1102, attributes := #[] }, { accessFlags := 26, nameIndex := 1121, descriptorIndex := 1122, attributes := #[] }, { accessFlags := 25, nameIndex := 599, descriptorIndex := 600, attributes := #[] }, { accessFlags := 24, nameIndex := 1125, descriptorIndex := 18, attributes := #[] }, { accessFlags := 24, nameIndex := 1127, descriptorIndex := 18, attributes := #[] }])
  fields := #[{ name := "value", type := (.array .byte), accessFlags := 18, slot := 0, constantValue := 0 }, { name := "coder", type := .byte, accessFlags := 18, slot := 1, constantValue := 0 }, { name := "hash", type := .int, accessFlags := 2, slot := 2, constantValue := 0 }, { name := "hashIsZero", type := .boolean, accessFlags := 2, slot := 3, constantValue := 0 }, { name := "serialVersionUID", type := .long, accessFlags := 26, slot := 0, constantValue := 0 }, { name := "COMPACT_STRINGS", type := .boolean, accessFlags := 24, slot := 1, constantValue := 0 }, { name := "serialPersistentFields", type := (.array (.object "java/io/ObjectStreamField")), accessFlags := 26, slot := 2, constantValue := 0 }, { name := "REPL", type := .char, accessFlags := 26, slot := 3, constantValue := 0 }, { name := "CASE_INSENSITIVE_ORDER", type := (.object "java/util/Comparator"), accessFlags := 25, slot := 4, constantValue := 0 }, { name := "LATIN1", type := .byte, accessFlags := 24, slot := 5, constantValue := 0 }, { name := "UTF16", type := .byte, accessFlags := 24, slot := 6, constantValue := 0 }]
  methods := #[k7m0, k7m1, k7m2, k7m3, k7m4]
  instanceTypes := #[(.array .byte), .byte, .int, .boolean]
  staticTypes := #[.long, .boolean, (.array (.object "java/io/ObjectStreamField")), .char, (.object "java/util/Comparator"), .byte, .byte]
  resolved := Array.replicate 1451 none
  statics := some 0 }

def pool8 : Array CpInfo := pool [(4, .class_ 6), (1, u "java/lang/Object"), (0, u "<init>"), (0, u "()V"), (5, .class_ 16), (1, u "java/lang/StringLatin1"), (40, u "([B)I"), (32, u "canEncode"), (14, u "(C)Z"), (15, u "$assertionsDisabled"), (0, u "Z"), (98, .class_ 223), (1, u "java/lang/StringLatin1$LinesSpliterator"), (74, u "hashCode"), (81, u "toBytes"), (1, u "(C)[B"), (7, .class_ 391), (0, u "java/lang/StringLatin1$CharsSpliterator")] 3

def k8m0 : Method := { name := "<init>", desc := "()V", sig := { parameters := [], returnType := none }, accessFlags := 0, code := none }
def k8c1 : Code := { maxStack := 2, maxLocals := 1, code := jdk_43_method_3_code, exceptionTable := #[], attributes := #[] }
def k8m1 : Method := { name := "canEncode", desc := "(C)Z", sig := { parameters := [.char], returnType := some .boolean }, accessFlags := 9, code := some k8c1 }
def k8c2 : Code := { maxStack := 5, maxLocals := 1, code := jdk_43_method_21_code, exceptionTable := #[], attributes := #[] }
def k8m2 : Method := { name := "hashCode", desc := "([B)I", sig := { parameters := [(.array .byte)], returnType := some .int }, accessFlags := 9, code := some k8c2 }
def k8c3 : Code := { maxStack := 4, maxLocals := 1, code := jdk_43_method_46_code, exceptionTable := #[], attributes := #[] }
def k8m3 : Method := { name := "toBytes", desc := "(C)[B", sig := { parameters := [.char], returnType := some (.array .byte) }, accessFlags := 9, code := some k8c3 }
/-- java/lang/StringLatin1 -/
def k8 : Class := { plain "java/lang/StringLatin1" (some 0) with
  accessFlags := 48
  interfaces := #[]
  cf := some (fileOf pool8 14 #[.nestMembers #[390, 221]] #[{ accessFlags := 0, nameIndex := 7, descriptorIndex := 8, attributes := #[] }, { accessFlags := 9, nameIndex := 90, descriptorIndex := 105, attributes := #[] }, { accessFlags := 9, nameIndex := 298, descriptorIndex := 57, attributes := #[] }, { accessFlags := 9, nameIndex := 380, descriptorIndex := 382, attributes := #[] }] 48 4 #[] #[{ accessFlags := 4120, nameIndex := 121, descriptorIndex := 122, attributes := #[] }])
  fields := #[{ name := "$assertionsDisabled", type := .boolean, accessFlags := 4120, slot := 0, constantValue := 0 }]
  methods := #[k8m0, k8m1, k8m2, k8m3]
  instanceTypes := #[]
  staticTypes := #[.boolean]
  resolved := Array.replicate 395 none
  statics := none }

def pool9 : Array CpInfo := pool [(1, .methodref 2 3), (0, .class_ 4), (0, .nameAndType 5 6), (0, u "java/lang/Object"), (0, u "<init>"), (0, u "()V"), (0, .class_ 8), (0, u "java/lang/Record")] 13

def k9c0 : Code := { maxStack := 1, maxLocals := 1, code := jdk_30_method_1_code, exceptionTable := #[], attributes := #[] }
def k9m0 : Method := { name := "<init>", desc := "()V", sig := { parameters := [], returnType := none }, accessFlags := 4, code := some k9c0 }
/-- java/lang/Record -/
def k9 : Class := { plain "java/lang/Record" (some 0) with
  accessFlags := 1057
  interfaces := #[]
  cf := some (fileOf pool9 7 #[] #[{ accessFlags := 4, nameIndex := 5, descriptorIndex := 6, attributes := #[] }] 1057 2 #[] #[])
  fields := #[]
  methods := #[k9m0]
  instanceTypes := #[]
  staticTypes := #[]
  resolved := Array.replicate 22 none
  statics := none }

def pool10 : Array CpInfo := pool [(1, .methodref 2 3), (0, .class_ 4), (0, .nameAndType 5 6), (0, u "java/lang/Record"), (0, u "<init>"), (0, u "()V"), (0, .fieldref 8 9), (0, .class_ 10), (0, .nameAndType 11 12), (0, u "com/example/libacross/libacross/format/Hit"), (0, u "documentId"), (0, u "Ljava/lang/String;"), (0, .fieldref 8 14), (0, .nameAndType 15 16), (0, u "score"), (0, u "D"), (10, u "(Ljava/lang/String;D)V"), (11, u "Ljava/util/Comparator;"), (22, u "RANK_ORDER"), (10, u "()Ljava/lang/String;")] 37

def k10c0 : Code := { maxStack := 3, maxLocals := 4, code := prog_20_method_1_code, exceptionTable := #[], attributes := #[] }
def k10m0 : Method := { name := "<init>", desc := "(Ljava/lang/String;D)V", sig := { parameters := [(.object "java/lang/String"), .double], returnType := none }, accessFlags := 1, code := some k10c0 }
def k10c1 : Code := { maxStack := 1, maxLocals := 1, code := prog_20_method_7_code, exceptionTable := #[], attributes := #[] }
def k10m1 : Method := { name := "documentId", desc := "()Ljava/lang/String;", sig := { parameters := [], returnType := some (.object "java/lang/String") }, accessFlags := 1, code := some k10c1 }
/-- com/example/libacross/libacross/format/Hit -/
def k10 : Class := { plain "com/example/libacross/libacross/format/Hit" (some 9) with
  accessFlags := 49
  interfaces := #[]
  cf := some (fileOf pool10 8 #[] #[{ accessFlags := 1, nameIndex := 5, descriptorIndex := 27, attributes := #[] }, { accessFlags := 1, nameIndex := 11, descriptorIndex := 73, attributes := #[] }] 49 2 #[] #[{ accessFlags := 18, nameIndex := 11, descriptorIndex := 12, attributes := #[] }, { accessFlags := 18, nameIndex := 15, descriptorIndex := 16, attributes := #[] }, { accessFlags := 25, nameIndex := 62, descriptorIndex := 39, attributes := #[] }])
  fields := #[{ name := "documentId", type := (.object "java/lang/String"), accessFlags := 18, slot := 0, constantValue := 0 }, { name := "score", type := .double, accessFlags := 18, slot := 1, constantValue := 0 }, { name := "RANK_ORDER", type := (.object "java/util/Comparator"), accessFlags := 25, slot := 0, constantValue := 0 }]
  methods := #[k10m0, k10m1]
  instanceTypes := #[(.object "java/lang/String"), .double]
  staticTypes := #[(.object "java/util/Comparator")]
  resolved := Array.replicate 111 none
  statics := none }

def pool11 : Array CpInfo := pool [(8, .class_ 10), (1, u "java/lang/Iterable"), (24, .class_ 36), (0, u "java/lang/Object")] 25

/-- java/lang/Iterable -/
def k11 : Class := { plain "java/lang/Iterable" (some 0) with
  accessFlags := 1537
  interfaces := #[]
  cf := some (fileOf pool11 8 #[] #[] 1537 35 #[] #[])
  fields := #[]
  methods := #[]
  instanceTypes := #[]
  staticTypes := #[]
  resolved := Array.replicate 62 none
  statics := none }

def pool12 : Array CpInfo := pool [(10, .class_ 12), (1, u "java/util/Collection"), (10, u "iterator"), (0, u "()Ljava/util/Iterator;"), (35, .class_ 61), (0, u "java/lang/Object"), (0, .class_ 63), (0, u "java/lang/Iterable")] 51

def k12m0 : Method := { name := "iterator", desc := "()Ljava/util/Iterator;", sig := { parameters := [], returnType := some (.object "java/util/Iterator") }, accessFlags := 1025, code := none }
/-- java/util/Collection -/
def k12 : Class := { plain "java/util/Collection" (some 0) with
  accessFlags := 1537
  interfaces := #[11]
  cf := some (fileOf pool12 10 #[] #[{ accessFlags := 1025, nameIndex := 23, descriptorIndex := 24, attributes := #[] }] 1537 60 #[62] #[])
  fields := #[]
  methods := #[k12m0]
  instanceTypes := #[]
  staticTypes := #[]
  resolved := Array.replicate 115 none
  statics := none }

def pool13 : Array CpInfo := pool [(1, .methodref 2 3), (0, .class_ 4), (0, .nameAndType 5 6), (0, u "java/lang/Object"), (0, u "<init>"), (0, u "()V"), (1, .class_ 10), (1, u "java/util/AbstractCollection"), (66, .class_ 78), (0, u "java/util/Collection")] 81

def k13c0 : Code := { maxStack := 1, maxLocals := 1, code := jdk_22_method_1_code, exceptionTable := #[], attributes := #[] }
def k13m0 : Method := { name := "<init>", desc := "()V", sig := { parameters := [], returnType := none }, accessFlags := 4, code := some k13c0 }
/-- java/util/AbstractCollection -/
def k13 : Class := { plain "java/util/AbstractCollection" (some 0) with
  accessFlags := 1057
  interfaces := #[12]
  cf := some (fileOf pool13 8 #[] #[{ accessFlags := 4, nameIndex := 5, descriptorIndex := 6, attributes := #[] }] 1057 2 #[77] #[])
  fields := #[]
  methods := #[k13m0]
  instanceTypes := #[]
  staticTypes := #[]
  resolved := Array.replicate 160 none
  statics := none }

def pool14 : Array CpInfo := pool [(8, .class_ 10), (1, u "java/util/SequencedCollection"), (15, .class_ 27), (0, u "java/lang/Object"), (0, .class_ 29), (0, u "java/util/Collection")] 27

/-- java/util/SequencedCollection -/
def k14 : Class := { plain "java/util/SequencedCollection" (some 0) with
  accessFlags := 1537
  interfaces := #[12]
  cf := some (fileOf pool14 8 #[] #[] 1537 26 #[28] #[])
  fields := #[]
  methods := #[]
  instanceTypes := #[]
  staticTypes := #[]
  resolved := Array.replicate 57 none
  statics := none }

def pool15 : Array CpInfo := pool [(8, .class_ 10), (1, u "java/util/List"), (64, u "get"), (0, u "(I)Ljava/lang/Object;"), (2, u "size"), (0, u "()I"), (22, .class_ 104), (0, u "java/lang/Object"), (15, .class_ 121), (0, u "java/util/SequencedCollection")] 129

def k15m0 : Method := { name := "size", desc := "()I", sig := { parameters := [], returnType := some .int }, accessFlags := 1025, code := none }
def k15m1 : Method := { name := "get", desc := "(I)Ljava/lang/Object;", sig := { parameters := [.int], returnType := some (.object "java/lang/Object") }, accessFlags := 1025, code := none }
/-- java/util/List -/
def k15 : Class := { plain "java/util/List" (some 0) with
  accessFlags := 1537
  interfaces := #[14]
  cf := some (fileOf pool15 8 #[] #[{ accessFlags := 1025, nameIndex := 79, descriptorIndex := 80, attributes := #[] }, { accessFlags := 1025, nameIndex := 75, descriptorIndex := 76, attributes := #[] }] 1537 103 #[120] #[])
  fields := #[]
  methods := #[k15m0, k15m1]
  instanceTypes := #[]
  staticTypes := #[]
  resolved := Array.replicate 251 none
  statics := none }

def pool16 : Array CpInfo := pool [(1, .methodref 2 3), (0, .class_ 4), (0, .nameAndType 5 6), (0, u "java/util/AbstractCollection"), (0, u "<init>"), (0, u "()V"), (0, .fieldref 8 9), (0, .class_ 10), (0, .nameAndType 11 12), (0, u "java/util/AbstractList"), (0, u "modCount"), (0, u "I"), (64, .class_ 78), (0, u "java/util/AbstractList$Itr"), (3, .class_ 83), (0, u "java/util/AbstractList$ListItr"), (9, .class_ 94), (0, u "java/util/AbstractList$RandomAccessSubList"), (3, .class_ 99), (0, u "java/util/AbstractList$SubList"), (33, .class_ 134), (0, u "java/util/List"), (73, .class_ 209), (0, u "java/util/AbstractList$SubList$1"), (0, .class_ 211), (0, u "java/util/AbstractList$RandomAccessSpliterator")] 6

def k16c0 : Code := { maxStack := 2, maxLocals := 1, code := jdk_39_method_1_code, exceptionTable := #[], attributes := #[] }
def k16m0 : Method := { name := "<init>", desc := "()V", sig := { parameters := [], returnType := none }, accessFlags := 4, code := some k16c0 }
/-- java/util/AbstractList -/
def k16 : Class := { plain "java/util/AbstractList" (some 13) with
  accessFlags := 1057
  interfaces := #[15]
  cf := some (fileOf pool16 8 #[.nestMembers #[93, 98, 208, 210, 82, 77]] #[{ accessFlags := 4, nameIndex := 5, descriptorIndex := 6, attributes := #[] }] 1057 2 #[133] #[{ accessFlags := 132, nameIndex := 11, descriptorIndex := 12, attributes := #[] }])
  fields := #[{ name := "modCount", type := .int, accessFlags := 132, slot := 0, constantValue := 0 }]
  methods := #[k16m0]
  instanceTypes := #[.int]
  staticTypes := #[]
  resolved := Array.replicate 218 none
  statics := none }

def pool17 : Array CpInfo := pool [(1, .class_ 2), (0, u "java/util/RandomAccess"), (0, .class_ 4), (0, u "java/lang/Object")] 2

/-- java/util/RandomAccess -/
def k17 : Class := { plain "java/util/RandomAccess" (some 0) with
  accessFlags := 1537
  interfaces := #[]
  cf := some (fileOf pool17 1 #[] #[] 1537 3 #[] #[])
  fields := #[]
  methods := #[]
  instanceTypes := #[]
  staticTypes := #[]
  resolved := Array.replicate 7 none
  statics := none }

def pool18 : Array CpInfo := pool [(1, .class_ 2), (0, u "java/lang/Cloneable"), (0, .class_ 4), (0, u "java/lang/Object")] 2

/-- java/lang/Cloneable -/
def k18 : Class := { plain "java/lang/Cloneable" (some 0) with
  accessFlags := 1537
  interfaces := #[]
  cf := some (fileOf pool18 1 #[] #[] 1537 3 #[] #[])
  fields := #[]
  methods := #[]
  instanceTypes := #[]
  staticTypes := #[]
  resolved := Array.replicate 7 none
  statics := none }

def pool19 : Array CpInfo := pool [(1, .methodref 2 3), (0, .class_ 4), (0, .nameAndType 5 6), (0, u "java/util/AbstractList"), (0, u "<init>"), (0, u "()V"), (0, .class_ 8), (0, u "java/lang/Object"), (0, .fieldref 10 11), (0, .class_ 12), (0, .nameAndType 13 14), (0, u "java/util/ArrayList"), (0, u "elementData"), (0, u "[Ljava/lang/Object;"), (2, u "EMPTY_ELEMENTDATA"), (21, .fieldref 10 40), (0, .nameAndType 41 14), (0, u "DEFAULTCAPACITY_EMPTY_ELEMENTDATA"), (5, u "()[Ljava/lang/Object;"), (0, .fieldref 10 49), (0, .nameAndType 50 51), (0, u "size"), (0, u "I"), (11, .fieldref 10 64), (0, .nameAndType 65 51), (0, u "modCount"), (3, .methodref 10 70), (0, .nameAndType 71 72), (0, u "grow"), (0, u "(I)[Ljava/lang/Object;"), (6, .methodref 80 81), (0, .class_ 82), (0, .nameAndType 83 84), (0, u "java/lang/Math"), (0, u "max"), (0, u "(II)I"), (11, u "(Ljava/lang/Object;)Z"), (21, .methodref 119 120), (0, .class_ 121), (0, .nameAndType 122 84), (0, u "java/util/Objects"), (0, u "checkIndex"), (0, .methodref 10 124), (0, .nameAndType 13 125), (0, u "(I)Ljava/lang/Object;"), (3, .methodref 10 130), (0, .nameAndType 71 47), (0, .methodref 10 132), (0, .nameAndType 133 134), (0, u "add"), (0, u "(Ljava/lang/Object;[Ljava/lang/Object;I)V"), (13, .class_ 149), (0, u "java/util/List"), (36, u "()I"), (75, .class_ 263), (0, u "java/util/ArrayList$ListItr"), (3, .class_ 268), (0, u "java/util/ArrayList$Itr"), (7, .class_ 277), (0, u "java/util/ArrayList$SubList"), (12, .class_ 291), (0, u "java/util/ArrayList$ArrayListSpliterator"), (37, .class_ 330), (0, u "java/util/RandomAccess"), (0, .class_ 332), (0, u "java/lang/Cloneable"), (0, .class_ 334), (0, u "java/io/Serializable"), (0, u "serialVersionUID"), (0, u "J"), (3, u "DEFAULT_CAPACITY"), (40, u "get"), (118, .class_ 501), (0, u "java/util/ArrayList$SubList$2"), (0, .class_ 503), (0, u "java/util/ArrayList$SubList$1")] 5

def k19c0 : Code := { maxStack := 2, maxLocals := 1, code := jdk_38_method_2_code, exceptionTable := #[], attributes := #[] }
def k19m0 : Method := { name := "<init>", desc := "()V", sig := { parameters := [], returnType := none }, accessFlags := 1, code := some k19c0 }
def k19c1 : Code := { maxStack := 4, maxLocals := 4, code := jdk_38_method_6_code, exceptionTable := #[], attributes := #[] }
def k19m1 : Method := { name := "grow", desc := "(I)[Ljava/lang/Object;", sig := { parameters := [.int], returnType := some (.array (.object "java/lang/Object")) }, accessFlags := 2, code := some k19c1 }
def k19c2 : Code := { maxStack := 3, maxLocals := 1, code := jdk_38_method_7_code, exceptionTable := #[], attributes := #[] }
def k19m2 : Method := { name := "grow", desc := "()[Ljava/lang/Object;", sig := { parameters := [], returnType := some (.array (.object "java/lang/Object")) }, accessFlags := 2, code := some k19c2 }
def k19c3 : Code := { maxStack := 1, maxLocals := 1, code := jdk_38_method_8_code, exceptionTable := #[], attributes := #[] }
def k19m3 : Method := { name := "size", desc := "()I", sig := { parameters := [], returnType := some .int }, accessFlags := 1, code := some k19c3 }
def k19c4 : Code := { maxStack := 2, maxLocals := 2, code := jdk_38_method_18_code, exceptionTable := #[], attributes := #[] }
def k19m4 : Method := { name := "elementData", desc := "(I)Ljava/lang/Object;", sig := { parameters := [.int], returnType := some (.object "java/lang/Object") }, accessFlags := 0, code := some k19c4 }
def k19c5 : Code := { maxStack := 2, maxLocals := 2, code := jdk_38_method_20_code, exceptionTable := #[], attributes := #[] }
def k19m5 : Method := { name := "get", desc := "(I)Ljava/lang/Object;", sig := { parameters := [.int], returnType := some (.object "java/lang/Object") }, accessFlags := 1, code := some k19c5 }
def k19c6 : Code := { maxStack := 3, maxLocals := 4, code := jdk_38_method_24_code, exceptionTable := #[], attributes := #[] }
def k19m6 : Method := { name := "add", desc := "(Ljava/lang/Object;[Ljava/lang/Object;I)V", sig := { parameters := [(.object "java/lang/Object"), (.array (.object "java/lang/Object")), .int], returnType := none }, accessFlags := 2, code := some k19c6 }
def k19c7 : Code := { maxStack := 4, maxLocals := 2, code := jdk_38_method_25_code, exceptionTable := #[], attributes := #[] }
def k19m7 : Method := { name := "add", desc := "(Ljava/lang/Object;)Z", sig := { parameters := [(.object "java/lang/Object")], returnType := some .boolean }, accessFlags := 1, code := some k19c7 }
/-- java/util/ArrayList -/
def k19 : Class := { plain "java/util/ArrayList" (some 16) with
  accessFlags := 33
  interfaces := #[15, 17, 18, 2]
  cf := some (fileOf pool19 10 #[.nestMembers #[290, 276, 500, 502, 262, 267]] #[{ accessFlags := 1, nameIndex := 5, descriptorIndex := 6, attributes := #[] }, { accessFlags := 2, nameIndex := 71, descriptorIndex := 72, attributes := #[] }, { accessFlags := 2, nameIndex := 71, descriptorIndex := 47, attributes := #[] }, { accessFlags := 1, nameIndex := 50, descriptorIndex := 186, attributes := #[] }, { accessFlags := 0, nameIndex := 13, descriptorIndex := 125, attributes := #[] }, { accessFlags := 1, nameIndex := 381, descriptorIndex := 125, attributes := #[] }, { accessFlags := 2, nameIndex := 133, descriptorIndex := 134, attributes := #[] }, { accessFlags := 1, nameIndex := 133, descriptorIndex := 96, attributes := #[] }] 33 2 #[148, 329, 331, 333] #[{ accessFlags := 26, nameIndex := 335, descriptorIndex := 336, attributes := #[] }, { accessFlags := 26, nameIndex := 340, descriptorIndex := 51, attributes := #[] }, { accessFlags := 26, nameIndex := 17, descriptorIndex := 14, attributes := #[] }, { accessFlags := 26, nameIndex := 41, descriptorIndex := 14, attributes := #[] }, { accessFlags := 128, nameIndex := 13, descriptorIndex := 14, attributes := #[] }, { accessFlags := 2, nameIndex := 50, descriptorIndex := 51, attributes := #[] }])
  fields := #[{ name := "serialVersionUID", type := .long, accessFlags := 26, slot := 0, constantValue := 0 }, { name := "DEFAULT_CAPACITY", type := .int, accessFlags := 26, slot := 1, constantValue := 0 }, { name := "EMPTY_ELEMENTDATA", type := (.array (.object "java/lang/Object")), accessFlags := 26, slot := 2, constantValue := 0 }, { name := "DEFAULTCAPACITY_EMPTY_ELEMENTDATA", type := (.array (.object "java/lang/Object")), accessFlags := 26, slot := 3, constantValue := 0 }, { name := "elementData", type := (.array (.object "java/lang/Object")), accessFlags := 128, slot := 1, constantValue := 0 }, { name := "size", type := .int, accessFlags := 2, slot := 2, constantValue := 0 }]
  methods := #[k19m0, k19m1, k19m2, k19m3, k19m4, k19m5, k19m6, k19m7]
  instanceTypes := #[.int, (.array (.object "java/lang/Object")), .int]
  staticTypes := #[.long, .int, (.array (.object "java/lang/Object")), (.array (.object "java/lang/Object"))]
  resolved := Array.replicate 509 none
  statics := some 1 }

def pool20 : Array CpInfo := pool [(2, .class_ 4), (1, u "java/util/Map"), (31, .class_ 37), (0, u "java/util/Map$Entry"), (25, u "(Ljava/lang/Object;Ljava/lang/Object;)Ljava/lang/Object;"), (29, .class_ 94), (0, u "java/lang/Object"), (25, u "size"), (0, u "()I"), (11, u "values"), (0, u "()Ljava/util/Collection;"), (3, u "getOrDefault")] 124

def k20m0 : Method := { name := "size", desc := "()I", sig := { parameters := [], returnType := some .int }, accessFlags := 1025, code := none }
def k20m1 : Method := { name := "values", desc := "()Ljava/util/Collection;", sig := { parameters := [], returnType := some (.object "java/util/Collection") }, accessFlags := 1025, code := none }
def k20c2 : Code := { maxStack := 2, maxLocals := 4, code := ⟨#[0x2a, 0x2b, 0xb9, 0x00, 0x01, 0x02, 0x00, 0x59, 0x4e, 0xc7, 0x00, 0x0d, 0x2a, 0x2b, 0xb9, 0x00, 0x07, 0x02, 0x00, 0x99, 0x00, 0x07, 0x2d, 0xa7, 0x00, 0x04, 0x2c, 0xb0]⟩, exceptionTable := #[], attributes := #[] }
def k20m2 : Method := { name := "getOrDefault", desc := "(Ljava/lang/Object;Ljava/lang/Object;)Ljava/lang/Object;", sig := { parameters := [(.object "java/lang/Object"), (.object "java/lang/Object")], returnType := some (.object "java/lang/Object") }, accessFlags := 1, code := some k20c2 }
/-- java/util/Map -/
def k20 : Class := { plain "java/util/Map" (some 0) with
  accessFlags := 1537
  interfaces := #[]
  cf := some (fileOf pool20 2 #[.nestMembers #[36]] #[{ accessFlags := 1025, nameIndex := 120, descriptorIndex := 121, attributes := #[] }, { accessFlags := 1025, nameIndex := 133, descriptorIndex := 134, attributes := #[] }, { accessFlags := 1, nameIndex := 138, descriptorIndex := 63, attributes := #[] }] 1537 93 #[] #[])
  fields := #[]
  methods := #[k20m0, k20m1, k20m2]
  instanceTypes := #[]
  staticTypes := #[]
  resolved := Array.replicate 263 none
  statics := none }

def pool21 : Array CpInfo := pool [(1, .methodref 2 3), (0, .class_ 4), (0, .nameAndType 5 6), (0, u "java/lang/Object"), (0, u "<init>"), (0, u "()V"), (1, .class_ 10), (1, u "java/util/AbstractMap"), (42, .class_ 54), (0, u "java/util/Map"), (9, u "keySet"), (0, u "Ljava/util/Set;"), (0, .class_ 67), (0, u "java/util/AbstractMap$1"), (5, u "values"), (0, u "Ljava/util/Collection;"), (0, .class_ 76), (0, u "java/util/AbstractMap$2"), (104, .class_ 182), (0, u "java/util/AbstractMap$ViewCollection"), (0, .class_ 184), (0, u "java/util/AbstractMap$SimpleImmutableEntry"), (0, .class_ 186), (0, u "java/util/AbstractMap$SimpleEntry"), (0, .class_ 188), (0, u "java/util/AbstractMap$2$1"), (0, .class_ 190), (0, u "java/util/AbstractMap$1$1")] 5

def k21c0 : Code := { maxStack := 1, maxLocals := 1, code := jdk_71_method_1_code, exceptionTable := #[], attributes := #[] }
def k21m0 : Method := { name := "<init>", desc := "()V", sig := { parameters := [], returnType := none }, accessFlags := 4, code := some k21c0 }
/-- java/util/AbstractMap -/
def k21 : Class := { plain "java/util/AbstractMap" (some 0) with
  accessFlags := 1057
  interfaces := #[20]
  cf := some (fileOf pool21 8 #[.nestMembers #[181, 183, 185, 75, 187, 66, 189]] #[{ accessFlags := 4, nameIndex := 5, descriptorIndex := 6, attributes := #[] }] 1057 2 #[53] #[{ accessFlags := 128, nameIndex := 64, descriptorIndex := 65, attributes := #[] }, { accessFlags := 128, nameIndex := 73, descriptorIndex := 74, attributes := #[] }])
  fields := #[{ name := "keySet", type := (.object "java/util/Set"), accessFlags := 128, slot := 0, constantValue := 0 }, { name := "values", type := (.object "java/util/Collection"), accessFlags := 128, slot := 1, constantValue := 0 }]
  methods := #[k21m0]
  instanceTypes := #[(.object "java/util/Set"), (.object "java/util/Collection")]
  staticTypes := #[]
  resolved := Array.replicate 196 none
  statics := none }

def pool22 : Array CpInfo := pool [(1, .methodref 2 3), (0, .class_ 4), (0, .nameAndType 5 6), (0, u "java/lang/Object"), (0, u "hashCode"), (0, u "()I"), (26, u "(Ljava/lang/Object;)I"), (6, .class_ 41), (0, u "java/util/HashMap"), (1, .methodref 44 45), (0, .class_ 46), (0, .nameAndType 47 48), (0, u "java/util/AbstractMap"), (0, u "<init>"), (0, u "()V"), (32, .fieldref 40 82), (0, .nameAndType 83 84), (0, u "loadFactor"), (0, u "F"), (3, .fieldref 40 89), (0, .nameAndType 90 91), (0, u "threshold"), (0, u "I"), (0, .float 1061158912), (8, .class_ 103), (1, u "java/util/Map"), (0, u "size"), (0, .fieldref 40 106), (0, .nameAndType 107 108), (0, u "table"), (0, u "[Ljava/util/HashMap$Node;"), (8, .methodref 40 118), (0, .nameAndType 119 120), (0, u "resize"), (0, u "()[Ljava/util/HashMap$Node;"), (2, u "entrySet"), (25, .methodref 40 150), (0, .nameAndType 151 33), (0, u "hash"), (0, .methodref 40 153), (0, .nameAndType 154 155), (0, u "putVal"), (0, u "(ILjava/lang/Object;Ljava/lang/Object;ZZ)Ljava/lang/Object;"), (0, .fieldref 40 157), (0, .nameAndType 104 91), (0, .methodref 40 159), (0, .nameAndType 160 161), (0, u "getNode"), (0, u "(Ljava/lang/Object;)Ljava/util/HashMap$Node;"), (0, .fieldref 163 164), (0, .class_ 165), (0, .nameAndType 166 167), (0, u "java/util/HashMap$Node"), (0, u "value"), (0, u "Ljava/lang/Object;"), (0, .fieldref 163 169), (0, .nameAndType 151 91), (0, .fieldref 163 171), (0, .nameAndType 172 167), (0, u "key"), (7, .class_ 181), (0, u "java/util/HashMap$TreeNode"), (4, .methodref 40 187), (0, .nameAndType 188 189), (0, u "newNode"), (0, u "(ILjava/lang/Object;Ljava/lang/Object;Ljava/util/HashMap$Node;)Ljava/util/HashMap$Node;"), (12, .fieldref 40 203), (0, .nameAndType 204 91), (0, u "modCount"), (0, .methodref 40 206), (0, .nameAndType 207 208), (0, u "afterNodeInsertion"), (0, u "(Z)V"), (33, u "Ljava/util/Set;"), (0, .class_ 244), (0, u "java/util/HashMap$KeySet"), (1, .nameAndType 47 247), (0, u "(Ljava/util/HashMap;)V"), (11, .fieldref 40 260), (0, .nameAndType 261 262), (0, u "values"), (0, u "Ljava/util/Collection;"), (0, .class_ 264), (0, u "java/util/HashMap$Values"), (0, .methodref 263 246), (2, .class_ 269), (0, u "java/util/HashMap$EntrySet"), (17, u "(Ljava/lang/Object;Ljava/lang/Object;)Ljava/lang/Object;"), (58, .class_ 348), (1, u "java/util/HashMap$UnsafeHolder"), (26, .methodref 163 376), (0, .nameAndType 47 377), (0, u "(ILjava/lang/Object;Ljava/lang/Object;Ljava/util/HashMap$Node;)V"), (14, .class_ 393), (0, u "java/lang/Cloneable"), (0, .class_ 395), (0, u "java/io/Serializable"), (0, u "serialVersionUID"), (0, u "J"), (3, u "DEFAULT_INITIAL_CAPACITY"), (1, u "MAXIMUM_CAPACITY"), (0, u "DEFAULT_LOAD_FACTOR"), (0, u "TREEIFY_THRESHOLD"), (1, u "UNTREEIFY_THRESHOLD"), (1, u "MIN_TREEIFY_CAPACITY"), (60, u "put"), (45, u "()Ljava/util/Collection;"), (7, u "getOrDefault"), (71, .class_ 597), (0, u "java/util/HashMap$EntrySpliterator"), (0, .class_ 599), (0, u "java/util/HashMap$ValueSpliterator"), (0, .class_ 601), (0, u "java/util/HashMap$KeySpliterator"), (0, .class_ 603), (0, u "java/util/HashMap$HashMapSpliterator"), (0, .class_ 605), (0, u "java/util/HashMap$EntryIterator"), (0, .class_ 607), (0, u "java/util/HashMap$ValueIterator"), (0, .class_ 609), (0, u "java/util/HashMap$KeyIterator"), (0, .class_ 611), (0, u "java/util/HashMap$HashIterator")] 17

def k22c0 : Code := { maxStack := 3, maxLocals := 2, code := jdk_69_method_1_code, exceptionTable := #[], attributes := #[] }
def k22m0 : Method := { name := "hash", desc := "(Ljava/lang/Object;)I", sig := { parameters := [(.object "java/lang/Object")], returnType := some .int }, accessFlags := 24, code := some k22c0 }
def k22c1 : Code := { maxStack := 2, maxLocals := 1, code := jdk_69_method_7_code, exceptionTable := #[], attributes := #[] }
def k22m1 : Method := { name := "<init>", desc := "()V", sig := { parameters := [], returnType := none }, accessFlags := 1, code := some k22c1 }
def k22c2 : Code := { maxStack := 1, maxLocals := 1, code := jdk_69_method_10_code, exceptionTable := #[], attributes := #[] }
def k22m2 : Method := { name := "size", desc := "()I", sig := { parameters := [], returnType := some .int }, accessFlags := 1, code := some k22c2 }
def k22c3 : Code := { maxStack := 4, maxLocals := 8, code := jdk_69_method_13_code, exceptionTable := #[], attributes := #[] }
def k22m3 : Method := { name := "getNode", desc := "(Ljava/lang/Object;)Ljava/util/HashMap$Node;", sig := { parameters := [(.object "java/lang/Object")], returnType := some (.object "java/util/HashMap$Node") }, accessFlags := 16, code := some k22c3 }
def k22c4 : Code := { maxStack := 6, maxLocals := 3, code := jdk_69_method_15_code, exceptionTable := #[], attributes := #[] }
def k22m4 : Method := { name := "put", desc := "(Ljava/lang/Object;Ljava/lang/Object;)Ljava/lang/Object;", sig := { parameters := [(.object "java/lang/Object"), (.object "java/lang/Object")], returnType := some (.object "java/lang/Object") }, accessFlags := 1, code := some k22c4 }
def k22c5 : Code := { maxStack := 7, maxLocals := 13, code := jdk_69_method_16_code, exceptionTable := #[], attributes := #[] }
def k22m5 : Method := { name := "putVal", desc := "(ILjava/lang/Object;Ljava/lang/Object;ZZ)Ljava/lang/Object;", sig := { parameters := [.int, (.object "java/lang/Object"), (.object "java/lang/Object"), .boolean, .boolean], returnType := some (.object "java/lang/Object") }, accessFlags := 16, code := some k22c5 }
def k22c6 : Code := { maxStack := 5, maxLocals := 14, code := jdk_69_method_17_code, exceptionTable := #[], attributes := #[] }
def k22m6 : Method := { name := "resize", desc := "()[Ljava/util/HashMap$Node;", sig := { parameters := [], returnType := some (.array (.object "java/util/HashMap$Node")) }, accessFlags := 16, code := some k22c6 }
def k22c7 : Code := { maxStack := 3, maxLocals := 2, code := jdk_69_method_28_code, exceptionTable := #[], attributes := #[] }
def k22m7 : Method := { name := "values", desc := "()Ljava/util/Collection;", sig := { parameters := [], returnType := some (.object "java/util/Collection") }, accessFlags := 1, code := some k22c7 }
def k22c8 : Code := { maxStack := 2, maxLocals := 4, code := jdk_69_method_30_code, exceptionTable := #[], attributes := #[] }
def k22m8 : Method := { name := "getOrDefault", desc := "(Ljava/lang/Object;Ljava/lang/Object;)Ljava/lang/Object;", sig := { parameters := [(.object "java/lang/Object"), (.object "java/lang/Object")], returnType := some (.object "java/lang/Object") }, accessFlags := 1, code := some k22c8 }
def k22c9 : Code := { maxStack := 6, maxLocals := 5, code := jdk_69_method_46_code, exceptionTable := #[], attributes := #[] }
def k22m9 : Method := { name := "newNode", desc := "(ILjava/lang/Object;Ljava/lang/Object;Ljava/util/HashMap$Node;)Ljava/util/HashMap$Node;", sig := { parameters := [.int, (.object "java/lang/Object"), (.object "java/lang/Object"), (.object "java/util/HashMap$Node")], returnType := some (.object "java/util/HashMap$Node") }, accessFlags := 0, code := some k22c9 }
def k22c10 : Code := { maxStack := 0, maxLocals := 2, code := jdk_69_method_52_code, exceptionTable := #[], attributes := #[] }
def k22m10 : Method := { name := "afterNodeInsertion", desc := "(Z)V", sig := { parameters := [.boolean], returnType := none }, accessFlags := 0, code := some k22c10 }
/-- java/util/HashMap -/
def k22 : Class := { plain "java/util/HashMap" (some 21) with
  accessFlags := 33
  interfaces := #[20, 18, 2]
  cf := some (fileOf pool22 40 #[.nestMembers #[180, 596, 598, 600, 602, 604, 606, 608, 610, 346, 268, 263, 243, 163]] #[{ accessFlags := 24, nameIndex := 151, descriptorIndex := 33, attributes := #[] }, { accessFlags := 1, nameIndex := 47, descriptorIndex := 48, attributes := #[] }, { accessFlags := 1, nameIndex := 104, descriptorIndex := 6, attributes := #[] }, { accessFlags := 16, nameIndex := 160, descriptorIndex := 161, attributes := #[] }, { accessFlags := 1, nameIndex := 470, descriptorIndex := 287, attributes := #[] }, { accessFlags := 16, nameIndex := 154, descriptorIndex := 155, attributes := #[] }, { accessFlags := 16, nameIndex := 119, descriptorIndex := 120, attributes := #[] }, { accessFlags := 1, nameIndex := 261, descriptorIndex := 516, attributes := #[] }, { accessFlags := 1, nameIndex := 524, descriptorIndex := 287, attributes := #[] }, { accessFlags := 0, nameIndex := 188, descriptorIndex := 189, attributes := #[] }, { accessFlags := 0, nameIndex := 207, descriptorIndex := 208, attributes := #[] }] 33 44 #[101, 392, 394] #[{ accessFlags := 26, nameIndex := 396, descriptorIndex := 397, attributes := #[] }, { accessFlags := 24, nameIndex := 401, descriptorIndex := 91, attributes := #[] }, { accessFlags := 24, nameIndex := 403, descriptorIndex := 91, attributes := #[] }, { accessFlags := 24, nameIndex := 404, descriptorIndex := 84, attributes := #[] }, { accessFlags := 24, nameIndex := 405, descriptorIndex := 91, attributes := #[] }, { accessFlags := 24, nameIndex := 407, descriptorIndex := 91, attributes := #[] }, { accessFlags := 24, nameIndex := 409, descriptorIndex := 91, attributes := #[] }, { accessFlags := 128, nameIndex := 107, descriptorIndex := 108, attributes := #[] }, { accessFlags := 128, nameIndex := 123, descriptorIndex := 242, attributes := #[] }, { accessFlags := 128, nameIndex := 104, descriptorIndex := 91, attributes := #[] }, { accessFlags := 128, nameIndex := 204, descriptorIndex := 91, attributes := #[] }, { accessFlags := 0, nameIndex := 90, descriptorIndex := 91, attributes := #[] }, { accessFlags := 16, nameIndex := 83, descriptorIndex := 84, attributes := #[] }])
  fields := #[{ name := "serialVersionUID", type := .long, accessFlags := 26, slot := 0, constantValue := 0 }, { name := "DEFAULT_INITIAL_CAPACITY", type := .int, accessFlags := 24, slot := 1, constantValue := 0 }, { name := "MAXIMUM_CAPACITY", type := .int, accessFlags := 24, slot := 2, constantValue := 0 }, { name := "DEFAULT_LOAD_FACTOR", type := .float, accessFlags := 24, slot := 3, constantValue := 0 }, { name := "TREEIFY_THRESHOLD", type := .int, accessFlags := 24, slot := 4, constantValue := 0 }, { name := "UNTREEIFY_THRESHOLD", type := .int, accessFlags := 24, slot := 5, constantValue := 0 }, { name := "MIN_TREEIFY_CAPACITY", type := .int, accessFlags := 24, slot := 6, constantValue := 0 }, { name := "table", type := (.array (.object "java/util/HashMap$Node")), accessFlags := 128, slot := 2, constantValue := 0 }, { name := "entrySet", type := (.object "java/util/Set"), accessFlags := 128, slot := 3, constantValue := 0 }, { name := "size", type := .int, accessFlags := 128, slot := 4, constantValue := 0 }, { name := "modCount", type := .int, accessFlags := 128, slot := 5, constantValue := 0 }, { name := "threshold", type := .int, accessFlags := 0, slot := 6, constantValue := 0 }, { name := "loadFactor", type := .float, accessFlags := 16, slot := 7, constantValue := 0 }]
  methods := #[k22m0, k22m1, k22m2, k22m3, k22m4, k22m5, k22m6, k22m7, k22m8, k22m9, k22m10]
  instanceTypes := #[(.object "java/util/Set"), (.object "java/util/Collection"), (.array (.object "java/util/HashMap$Node")), (.object "java/util/Set"), .int, .int, .int, .float]
  staticTypes := #[.long, .int, .int, .float, .int, .int, .int]
  resolved := Array.replicate 629 none
  statics := none }

def pool23 : Array CpInfo := pool [(1, .methodref 2 3), (0, .class_ 4), (0, .nameAndType 5 6), (0, u "java/lang/Object"), (0, u "<init>"), (0, u "()V"), (0, .interfaceMethodref 8 9), (0, .class_ 10), (0, .nameAndType 11 12), (0, u "java/util/List"), (0, u "size"), (0, u "()I"), (0, .fieldref 14 15), (0, .class_ 16), (0, .nameAndType 17 18), (0, u "com/example/libacross/libacross/eval/JudgedRanking"), (0, u "relevance"), (0, u "[I"), (0, .interfaceMethodref 8 20), (0, .nameAndType 21 22), (0, u "get"), (0, u "(I)Ljava/lang/Object;"), (0, .class_ 24), (0, u "com/example/libacross/libacross/format/Hit"), (0, .methodref 23 26), (0, .nameAndType 27 28), (0, u "documentId"), (0, u "()Ljava/lang/String;"), (0, .methodref 30 31), (0, .class_ 32), (0, .nameAndType 33 34), (0, u "java/lang/Integer"), (0, u "valueOf"), (0, u "(I)Ljava/lang/Integer;"), (0, .interfaceMethodref 36 37), (0, .class_ 38), (0, .nameAndType 39 40), (0, u "java/util/Map"), (0, u "getOrDefault"), (0, u "(Ljava/lang/Object;Ljava/lang/Object;)Ljava/lang/Object;"), (0, .methodref 30 42), (0, .nameAndType 43 12), (0, u "intValue"), (0, .interfaceMethodref 36 9), (0, .interfaceMethodref 36 46), (0, .nameAndType 47 48), (0, u "values"), (0, u "()Ljava/util/Collection;"), (0, .interfaceMethodref 50 51), (0, .class_ 52), (0, .nameAndType 53 54), (0, u "java/util/Collection"), (0, u "iterator"), (0, u "()Ljava/util/Iterator;"), (0, .interfaceMethodref 56 57), (0, .class_ 58), (0, .nameAndType 59 60), (0, u "java/util/Iterator"), (0, u "hasNext"), (0, u "()Z"), (0, .interfaceMethodref 56 62), (0, .nameAndType 63 64), (0, u "next"), (0, u "()Ljava/lang/Object;"), (0, .methodref 66 67), (0, .class_ 68), (0, .nameAndType 69 70), (0, u "java/util/Arrays"), (0, u "copyOf"), (0, u "([II)[I"), (0, .methodref 66 72), (0, .nameAndType 73 74), (0, u "sort"), (0, u "([I)V"), (0, .fieldref 14 76), (0, .nameAndType 77 18), (0, u "idealGains"), (3, .methodref 14 82), (0, .nameAndType 83 84), (0, u "isRelevant"), (0, u "(I)Z"), (20, u "LN_2"), (0, u "D"), (6, u "(Ljava/util/List;Ljava/util/Map;)V"), (7, u "()D"), (0, u "reciprocalRank")] 11

def k23c0 : Code := { maxStack := 5, maxLocals := 7, code := prog_4_method_1_code, exceptionTable := #[], attributes := #[] }
def k23m0 : Method := { name := "<init>", desc := "(Ljava/util/List;Ljava/util/Map;)V", sig := { parameters := [(.object "java/util/List"), (.object "java/util/Map")], returnType := none }, accessFlags := 0, code := some k23c0 }
def k23c1 : Code := { maxStack := 4, maxLocals := 2, code := prog_4_method_3_code, exceptionTable := #[], attributes := #[] }
def k23m1 : Method := { name := "reciprocalRank", desc := "()D", sig := { parameters := [], returnType := some .double }, accessFlags := 0, code := some k23c1 }
def k23c2 : Code := { maxStack := 3, maxLocals := 2, code := prog_4_method_10_code, exceptionTable := #[], attributes := #[] }
def k23m2 : Method := { name := "isRelevant", desc := "(I)Z", sig := { parameters := [.int], returnType := some .boolean }, accessFlags := 2, code := some k23c2 }
/-- com/example/libacross/libacross/eval/JudgedRanking -/
def k23 : Class := { plain "com/example/libacross/libacross/eval/JudgedRanking" (some 0) with
  accessFlags := 48
  interfaces := #[]
  cf := some (fileOf pool23 14 #[] #[{ accessFlags := 0, nameIndex := 5, descriptorIndex := 113, attributes := #[] }, { accessFlags := 0, nameIndex := 122, descriptorIndex := 121, attributes := #[] }, { accessFlags := 2, nameIndex := 83, descriptorIndex := 84, attributes := #[] }] 48 2 #[] #[{ accessFlags := 26, nameIndex := 105, descriptorIndex := 106, attributes := #[] }, { accessFlags := 18, nameIndex := 17, descriptorIndex := 18, attributes := #[] }, { accessFlags := 18, nameIndex := 77, descriptorIndex := 18, attributes := #[] }])
  fields := #[{ name := "LN_2", type := .double, accessFlags := 26, slot := 0, constantValue := 0 }, { name := "relevance", type := (.array .int), accessFlags := 18, slot := 0, constantValue := 0 }, { name := "idealGains", type := (.array .int), accessFlags := 18, slot := 1, constantValue := 0 }]
  methods := #[k23m0, k23m1, k23m2]
  instanceTypes := #[(.array .int), (.array .int)]
  staticTypes := #[.double]
  resolved := Array.replicate 134 none
  statics := none }

def pool24 : Array CpInfo := pool [(1, .fieldref 2 3), (0, .class_ 4), (0, .nameAndType 5 6), (0, u "java/util/HashMap$Values"), (0, u "this$0"), (0, u "Ljava/util/HashMap;"), (0, .methodref 8 9), (0, .class_ 10), (0, .nameAndType 11 12), (0, u "java/util/AbstractCollection"), (0, u "<init>"), (0, u "()V"), (1, .class_ 16), (1, u "java/util/HashMap"), (5, .class_ 23), (0, u "java/util/HashMap$ValueIterator"), (0, .methodref 22 25), (0, .nameAndType 11 26), (0, u "(Ljava/util/HashMap;)V"), (56, u "iterator"), (0, u "()Ljava/util/Iterator;")] 35

def k24c0 : Code := { maxStack := 2, maxLocals := 2, code := jdk_2571_method_1_code, exceptionTable := #[], attributes := #[] }
def k24m0 : Method := { name := "<init>", desc := "(Ljava/util/HashMap;)V", sig := { parameters := [(.object "java/util/HashMap")], returnType := none }, accessFlags := 0, code := some k24c0 }
def k24c1 : Code := { maxStack := 3, maxLocals := 1, code := jdk_2571_method_4_code, exceptionTable := #[], attributes := #[] }
def k24m1 : Method := { name := "iterator", desc := "()Ljava/util/Iterator;", sig := { parameters := [], returnType := some (.object "java/util/Iterator") }, accessFlags := 17, code := some k24c1 }
/-- java/util/HashMap$Values -/
def k24 : Class := { plain "java/util/HashMap$Values" (some 13) with
  accessFlags := 48
  interfaces := #[]
  cf := some (fileOf pool24 2 #[.nestHost 14] #[{ accessFlags := 0, nameIndex := 11, descriptorIndex := 26, attributes := #[] }, { accessFlags := 17, nameIndex := 83, descriptorIndex := 84, attributes := #[] }] 48 8 #[] #[{ accessFlags := 4112, nameIndex := 5, descriptorIndex := 6, attributes := #[] }])
  fields := #[{ name := "this$0", type := (.object "java/util/HashMap"), accessFlags := 4112, slot := 0, constantValue := 0 }]
  methods := #[k24m0, k24m1]
  instanceTypes := #[(.object "java/util/HashMap")]
  staticTypes := #[]
  resolved := Array.replicate 120 none
  statics := none }

def pool25 : Array CpInfo := pool [(1, .fieldref 2 3), (0, .class_ 4), (0, .nameAndType 5 6), (0, u "java/util/HashMap$HashIterator"), (0, u "this$0"), (0, u "Ljava/util/HashMap;"), (0, .methodref 8 9), (0, .class_ 10), (0, .nameAndType 11 12), (0, u "java/lang/Object"), (0, u "<init>"), (0, u "()V"), (0, .fieldref 14 15), (0, .class_ 16), (0, .nameAndType 17 18), (0, u "java/util/HashMap"), (0, u "modCount"), (0, u "I"), (0, .fieldref 2 20), (0, .nameAndType 21 18), (0, u "expectedModCount"), (0, .fieldref 14 23), (0, .nameAndType 24 25), (0, u "table"), (0, u "[Ljava/util/HashMap$Node;"), (0, .fieldref 2 27), (0, .nameAndType 28 29), (0, u "next"), (0, u "Ljava/util/HashMap$Node;"), (0, .fieldref 2 31), (0, .nameAndType 32 29), (0, u "current"), (0, .fieldref 2 34), (0, .nameAndType 35 18), (0, u "index"), (0, .fieldref 14 37), (0, .nameAndType 38 18), (0, u "size"), (6, .fieldref 46 27), (0, .class_ 47), (0, u "java/util/HashMap$Node"), (16, u "(Ljava/util/HashMap;)V"), (12, u "hasNext"), (0, u "()Z"), (0, u "nextNode"), (0, u "()Ljava/util/HashMap$Node;")] 10

def k25c0 : Code := { maxStack := 6, maxLocals := 3, code := jdk_99_method_1_code, exceptionTable := #[], attributes := #[] }
def k25m0 : Method := { name := "<init>", desc := "(Ljava/util/HashMap;)V", sig := { parameters := [(.object "java/util/HashMap")], returnType := none }, accessFlags := 0, code := some k25c0 }
def k25c1 : Code := { maxStack := 1, maxLocals := 1, code := jdk_99_method_2_code, exceptionTable := #[], attributes := #[] }
def k25m1 : Method := { name := "hasNext", desc := "()Z", sig := { parameters := [], returnType := some .boolean }, accessFlags := 17, code := some k25c1 }
def k25c2 : Code := { maxStack := 6, maxLocals := 3, code := jdk_99_method_3_code, exceptionTable := #[], attributes := #[] }
def k25m2 : Method := { name := "nextNode", desc := "()Ljava/util/HashMap$Node;", sig := { parameters := [], returnType := some (.object "java/util/HashMap$Node") }, accessFlags := 16, code := some k25c2 }
/-- java/util/HashMap$HashIterator -/
def k25 : Class := { plain "java/util/HashMap$HashIterator" (some 0) with
  accessFlags := 1056
  interfaces := #[]
  cf := some (fileOf pool25 2 #[.nestHost 14] #[{ accessFlags := 0, nameIndex := 11, descriptorIndex := 64, attributes := #[] }, { accessFlags := 17, nameIndex := 77, descriptorIndex := 78, attributes := #[] }, { accessFlags := 16, nameIndex := 79, descriptorIndex := 80, attributes := #[] }] 1056 8 #[] #[{ accessFlags := 0, nameIndex := 28, descriptorIndex := 29, attributes := #[] }, { accessFlags := 0, nameIndex := 32, descriptorIndex := 29, attributes := #[] }, { accessFlags := 0, nameIndex := 21, descriptorIndex := 18, attributes := #[] }, { accessFlags := 0, nameIndex := 35, descriptorIndex := 18, attributes := #[] }, { accessFlags := 4112, nameIndex := 5, descriptorIndex := 6, attributes := #[] }])
  fields := #[{ name := "next", type := (.object "java/util/HashMap$Node"), accessFlags := 0, slot := 0, constantValue := 0 }, { name := "current", type := (.object "java/util/HashMap$Node"), accessFlags := 0, slot := 1, constantValue := 0 }, { name := "expectedModCount", type := .int, accessFlags := 0, slot := 2, constantValue := 0 }, { name := "index", type := .int, accessFlags := 0, slot := 3, constantValue := 0 }, { name := "this$0", type := (.object "java/util/HashMap"), accessFlags := 4112, slot := 4, constantValue := 0 }]
  methods := #[k25m0, k25m1, k25m2]
  instanceTypes := #[(.object "java/util/HashMap$Node"), (.object "java/util/HashMap$Node"), .int, .int, (.object "java/util/HashMap")]
  staticTypes := #[]
  resolved := Array.replicate 91 none
  statics := none }

def pool26 : Array CpInfo := pool [(16, .class_ 18), (1, u "java/util/Iterator"), (0, u "hasNext"), (0, u "()Z"), (2, u "next"), (0, u "()Ljava/lang/Object;"), (6, .class_ 32), (0, u "java/lang/Object")] 20

def k26m0 : Method := { name := "hasNext", desc := "()Z", sig := { parameters := [], returnType := some .boolean }, accessFlags := 1025, code := none }
def k26m1 : Method := { name := "next", desc := "()Ljava/lang/Object;", sig := { parameters := [], returnType := some (.object "java/lang/Object") }, accessFlags := 1025, code := none }
/-- java/util/Iterator -/
def k26 : Class := { plain "java/util/Iterator" (some 0) with
  accessFlags := 1537
  interfaces := #[]
  cf := some (fileOf pool26 16 #[] #[{ accessFlags := 1025, nameIndex := 19, descriptorIndex := 20, attributes := #[] }, { accessFlags := 1025, nameIndex := 23, descriptorIndex := 24, attributes := #[] }] 1537 31 #[] #[])
  fields := #[]
  methods := #[k26m0, k26m1]
  instanceTypes := #[]
  staticTypes := #[]
  resolved := Array.replicate 53 none
  statics := none }

def pool27 : Array CpInfo := pool [(1, .methodref 2 3), (0, .class_ 4), (0, .nameAndType 5 6), (0, u "java/util/HashMap$HashIterator"), (0, u "<init>"), (0, u "(Ljava/util/HashMap;)V"), (0, .methodref 8 9), (0, .class_ 10), (0, .nameAndType 11 12), (0, u "java/util/HashMap$ValueIterator"), (0, u "nextNode"), (0, u "()Ljava/util/HashMap$Node;"), (0, .fieldref 14 15), (0, .class_ 16), (0, .nameAndType 17 18), (0, u "java/util/HashMap$Node"), (0, u "value"), (0, u "Ljava/lang/Object;"), (0, .class_ 20), (0, u "java/util/Iterator"), (10, u "next"), (0, u "()Ljava/lang/Object;"), (6, .class_ 40), (0, u "java/util/HashMap")] 4

def k27c0 : Code := { maxStack := 2, maxLocals := 2, code := jdk_2569_method_1_code, exceptionTable := #[], attributes := #[] }
def k27m0 : Method := { name := "<init>", desc := "(Ljava/util/HashMap;)V", sig := { parameters := [(.object "java/util/HashMap")], returnType := none }, accessFlags := 0, code := some k27c0 }
def k27c1 : Code := { maxStack := 1, maxLocals := 1, code := jdk_2569_method_2_code, exceptionTable := #[], attributes := #[] }
def k27m1 : Method := { name := "next", desc := "()Ljava/lang/Object;", sig := { parameters := [], returnType := some (.object "java/lang/Object") }, accessFlags := 17, code := some k27c1 }
/-- java/util/HashMap$ValueIterator -/
def k27 : Class := { plain "java/util/HashMap$ValueIterator" (some 25) with
  accessFlags := 48
  interfaces := #[26]
  cf := some (fileOf pool27 8 #[.nestHost 39] #[{ accessFlags := 0, nameIndex := 5, descriptorIndex := 6, attributes := #[] }, { accessFlags := 17, nameIndex := 31, descriptorIndex := 32, attributes := #[] }] 48 2 #[19] #[])
  fields := #[]
  methods := #[k27m0, k27m1]
  instanceTypes := #[(.object "java/util/HashMap$Node"), (.object "java/util/HashMap$Node"), .int, .int, (.object "java/util/HashMap")]
  staticTypes := #[]
  resolved := Array.replicate 45 none
  statics := none }

def pool28 : Array CpInfo := pool [(2, .class_ 4), (1, u "java/lang/Object"), (0, u "<init>"), (0, u "()V"), (0, .methodref 8 9), (0, .class_ 10), (0, .nameAndType 11 12), (0, u "java/util/DualPivotQuicksort"), (0, u "sort"), (0, u "([IIII)V"), (1, .class_ 16), (1, u "java/util/Arrays"), (57, .class_ 76), (1, u "java/util/Arrays$NaturalOrder"), (32, u "()Ljava/lang/Object;"), (3, .class_ 115), (1, u "java/util/Arrays$LegacyMergeSort"), (1, u "Z"), (10, .nameAndType 129 109), (0, u "clone"), (20, .methodref 151 152), (0, .class_ 153), (0, .nameAndType 154 155), (0, u "java/lang/System"), (0, u "arraycopy"), (0, u "(Ljava/lang/Object;ILjava/lang/Object;II)V"), (146, u "copyOf"), (1, .methodref 305 306), (0, .class_ 307), (0, .nameAndType 308 309), (0, u "java/lang/Math"), (0, u "min"), (0, u "(II)I"), (6, .methodref 317 128), (0, .class_ 318), (0, u "[I"), (56, .class_ 376), (0, u "java/util/Arrays$ArrayList"), (68, u "$assertionsDisabled"), (269, u "MIN_ARRAY_SORT_GRAN"), (0, u "I"), (2, u "INSERTIONSORT_THRESHOLD"), (6, u "([I)V"), (144, u "([II)[I"), (103, .class_ 976), (0, u "java/util/Arrays$ArrayItr")] 52

def k28m0 : Method := { name := "<init>", desc := "()V", sig := { parameters := [], returnType := none }, accessFlags := 2, code := none }
def k28c1 : Code := { maxStack := 4, maxLocals := 1, code := jdk_65_method_2_code, exceptionTable := #[], attributes := #[] }
def k28m1 : Method := { name := "sort", desc := "([I)V", sig := { parameters := [(.array .int)], returnType := none }, accessFlags := 9, code := some k28c1 }
def k28c2 : Code := { maxStack := 6, maxLocals := 3, code := jdk_65_method_123_code, exceptionTable := #[], attributes := #[] }
def k28m2 : Method := { name := "copyOf", desc := "([II)[I", sig := { parameters := [(.array .int), .int], returnType := some (.array .int) }, accessFlags := 9, code := some k28c2 }
/-- java/util/Arrays -/
def k28 : Class := { plain "java/util/Arrays" (some 0) with
  accessFlags := 49
  interfaces := #[]
  cf := some (fileOf pool28 14 #[.nestMembers #[975, 375, 113, 74]] #[{ accessFlags := 2, nameIndex := 5, descriptorIndex := 6, attributes := #[] }, { accessFlags := 9, nameIndex := 11, descriptorIndex := 726, attributes := #[] }, { accessFlags := 9, nameIndex := 302, descriptorIndex := 871, attributes := #[] }] 49 2 #[] #[{ accessFlags := 26, nameIndex := 715, descriptorIndex := 716, attributes := #[] }, { accessFlags := 26, nameIndex := 719, descriptorIndex := 716, attributes := #[] }, { accessFlags := 4120, nameIndex := 445, descriptorIndex := 117, attributes := #[] }])
  fields := #[{ name := "MIN_ARRAY_SORT_GRAN", type := .int, accessFlags := 26, slot := 0, constantValue := 0 }, { name := "INSERTIONSORT_THRESHOLD", type := .int, accessFlags := 26, slot := 1, constantValue := 0 }, { name := "$assertionsDisabled", type := .boolean, accessFlags := 4120, slot := 2, constantValue := 0 }]
  methods := #[k28m0, k28m1, k28m2]
  instanceTypes := #[]
  staticTypes := #[.int, .int, .boolean]
  resolved := Array.replicate 1029 none
  statics := none }

def pool29 : Array CpInfo := pool [(1, .class_ 2), (0, u "java/util/DualPivotQuicksort"), (5, .class_ 10), (1, u "java/lang/Object"), (0, u "<init>"), (0, u "()V"), (4, .class_ 18), (0, u "java/util/DualPivotQuicksort$Sorter"), (7, .methodref 1 27), (0, .nameAndType 28 29), (0, u "sort"), (0, u "(Ljava/util/DualPivotQuicksort$Sorter;[IIII)V"), (3, u "([IIII)V"), (0, .methodref 1 35), (0, .nameAndType 36 37), (0, u "insertionSort"), (0, u "([III)V"), (30, u "I"), (4, .class_ 74), (0, u "java/util/DualPivotQuicksort$RunMerger"), (10, .class_ 86), (0, u "java/util/DualPivotQuicksort$Merger"), (127, u "MAX_MIXED_INSERTION_SORT_SIZE"), (2, u "MAX_INSERTION_SORT_SIZE"), (1, u "MIN_PARALLEL_SORT_SIZE"), (1, u "MIN_TRY_MERGE_SIZE"), (0, u "MIN_FIRST_RUN_SIZE"), (1, u "MIN_FIRST_RUNS_FACTOR"), (1, u "MAX_RUN_CAPACITY"), (1, u "MIN_RUN_COUNT"), (1, u "MIN_PARALLEL_MERGE_PARTS_SIZE"), (0, u "MIN_BYTE_COUNTING_SORT_SIZE"), (1, u "MIN_SHORT_OR_CHAR_COUNTING_SORT_SIZE"), (1, u "DELTA"), (1, u "MAX_RECURSION_DEPTH"), (1, u "NUM_BYTE_VALUES"), (1, u "MAX_BYTE_INDEX"), (0, u "NUM_CHAR_VALUES"), (0, u "NUM_SHORT_VALUES"), (0, u "MAX_SHORT_INDEX")] 86

def k29m0 : Method := { name := "<init>", desc := "()V", sig := { parameters := [], returnType := none }, accessFlags := 2, code := none }
def k29c1 : Code := { maxStack := 9, maxLocals := 7, code := jdk_2529_method_3_code, exceptionTable := #[], attributes := #[] }
def k29m1 : Method := { name := "sort", desc := "([IIII)V", sig := { parameters := [(.array .int), .int, .int, .int], returnType := none }, accessFlags := 8, code := some k29c1 }
def k29c2 : Code := { maxStack := 6, maxLocals := 21, code := jdk_2529_method_4_code, exceptionTable := #[], attributes := #[] }
def k29m2 : Method := { name := "sort", desc := "(Ljava/util/DualPivotQuicksort$Sorter;[IIII)V", sig := { parameters := [(.object "java/util/DualPivotQuicksort$Sorter"), (.array .int), .int, .int, .int], returnType := none }, accessFlags := 8, code := some k29c2 }
def k29c3 : Code := { maxStack := 4, maxLocals := 6, code := jdk_2529_method_6_code, exceptionTable := #[], attributes := #[] }
def k29m3 : Method := { name := "insertionSort", desc := "([III)V", sig := { parameters := [(.array .int), .int, .int], returnType := none }, accessFlags := 10, code := some k29c3 }
/-- java/util/DualPivotQuicksort -/
def k29 : Class := { plain "java/util/DualPivotQuicksort" (some 0) with
  accessFlags := 48
  interfaces := #[]
  cf := some (fileOf pool29 1 #[.nestMembers #[73, 85, 17]] #[{ accessFlags := 2, nameIndex := 11, descriptorIndex := 12, attributes := #[] }, { accessFlags := 8, nameIndex := 28, descriptorIndex := 33, attributes := #[] }, { accessFlags := 8, nameIndex := 28, descriptorIndex := 29, attributes := #[] }, { accessFlags := 10, nameIndex := 36, descriptorIndex := 37, attributes := #[] }] 48 8 #[] #[{ accessFlags := 26, nameIndex := 214, descriptorIndex := 68, attributes := #[] }, { accessFlags := 26, nameIndex := 217, descriptorIndex := 68, attributes := #[] }, { accessFlags := 26, nameIndex := 219, descriptorIndex := 68, attributes := #[] }, { accessFlags := 26, nameIndex := 221, descriptorIndex := 68, attributes := #[] }, { accessFlags := 26, nameIndex := 222, descriptorIndex := 68, attributes := #[] }, { accessFlags := 26, nameIndex := 224, descriptorIndex := 68, attributes := #[] }, { accessFlags := 26, nameIndex := 226, descriptorIndex := 68, attributes := #[] }, { accessFlags := 26, nameIndex := 228, descriptorIndex := 68, attributes := #[] }, { accessFlags := 26, nameIndex := 230, descriptorIndex := 68, attributes := #[] }, { accessFlags := 26, nameIndex := 231, descriptorIndex := 68, attributes := #[] }, { accessFlags := 26, nameIndex := 233, descriptorIndex := 68, attributes := #[] }, { accessFlags := 26, nameIndex := 235, descriptorIndex := 68, attributes := #[] }, { accessFlags := 26, nameIndex := 237, descriptorIndex := 68, attributes := #[] }, { accessFlags := 26, nameIndex := 239, descriptorIndex := 68, attributes := #[] }, { accessFlags := 26, nameIndex := 241, descriptorIndex := 68, attributes := #[] }, { accessFlags := 26, nameIndex := 242, descriptorIndex := 68, attributes := #[] }, { accessFlags := 26, nameIndex := 243, descriptorIndex := 68, attributes := #[] }, { accessFlags := 26, nameIndex := 244, descriptorIndex := 68, attributes := #[] }])
  fields := #[{ name := "MAX_MIXED_INSERTION_SORT_SIZE", type := .int, accessFlags := 26, slot := 0, constantValue := 0 }, { name := "MAX_INSERTION_SORT_SIZE", type := .int, accessFlags := 26, slot := 1, constantValue := 0 }, { name := "MIN_PARALLEL_SORT_SIZE", type := .int, accessFlags := 26, slot := 2, constantValue := 0 }, { name := "MIN_TRY_MERGE_SIZE", type := .int, accessFlags := 26, slot := 3, constantValue := 0 }, { name := "MIN_FIRST_RUN_SIZE", type := .int, accessFlags := 26, slot := 4, constantValue := 0 }, { name := "MIN_FIRST_RUNS_FACTOR", type := .int, accessFlags := 26, slot := 5, constantValue := 0 }, { name := "MAX_RUN_CAPACITY", type := .int, accessFlags := 26, slot := 6, constantValue := 0 }, { name := "MIN_RUN_COUNT", type := .int, accessFlags := 26, slot := 7, constantValue := 0 }, { name := "MIN_PARALLEL_MERGE_PARTS_SIZE", type := .int, accessFlags := 26, slot := 8, constantValue := 0 }, { name := "MIN_BYTE_COUNTING_SORT_SIZE", type := .int, accessFlags := 26, slot := 9, constantValue := 0 }, { name := "MIN_SHORT_OR_CHAR_COUNTING_SORT_SIZE", type := .int, accessFlags := 26, slot := 10, constantValue := 0 }, { name := "DELTA", type := .int, accessFlags := 26, slot := 11, constantValue := 0 }, { name := "MAX_RECURSION_DEPTH", type := .int, accessFlags := 26, slot := 12, constantValue := 0 }, { name := "NUM_BYTE_VALUES", type := .int, accessFlags := 26, slot := 13, constantValue := 0 }, { name := "MAX_BYTE_INDEX", type := .int, accessFlags := 26, slot := 14, constantValue := 0 }, { name := "NUM_CHAR_VALUES", type := .int, accessFlags := 26, slot := 15, constantValue := 0 }, { name := "NUM_SHORT_VALUES", type := .int, accessFlags := 26, slot := 16, constantValue := 0 }, { name := "MAX_SHORT_INDEX", type := .int, accessFlags := 26, slot := 17, constantValue := 0 }]
  methods := #[k29m0, k29m1, k29m2, k29m3]
  instanceTypes := #[]
  staticTypes := #[.int, .int, .int, .int, .int, .int, .int, .int, .int, .int, .int, .int, .int, .int, .int, .int, .int, .int]
  resolved := Array.replicate 331 none
  statics := none }

def pool30 : Array CpInfo := pool [(1, .class_ 2), (0, u "java/lang/Math"), (1, .class_ 6), (1, u "java/lang/Object"), (0, u "<init>"), (0, u "()V"), (89, .class_ 100), (1, u "java/lang/Math$RandomNumberGeneratorHolder"), (71, u "negativeZeroFloatBits"), (0, u "J"), (2, u "negativeZeroDoubleBits"), (21, u "max"), (2, u "min"), (43, u "$assertionsDisabled"), (0, u "Z"), (88, u "(II)I"), (2, u "twoToTheDoubleScaleDown"), (0, u "D"), (4, u "twoToTheDoubleScaleUp"), (9, u "E"), (3, u "PI"), (2, u "TAU"), (2, u "DEGREES_TO_RADIANS"), (0, u "RADIANS_TO_DEGREES")] 94

def k30m0 : Method := { name := "<init>", desc := "()V", sig := { parameters := [], returnType := none }, accessFlags := 2, code := none }
def k30c1 : Code := { maxStack := 2, maxLocals := 2, code := jdk_29_method_65_code, exceptionTable := #[], attributes := #[] }
def k30m1 : Method := { name := "max", desc := "(II)I", sig := { parameters := [.int, .int], returnType := some .int }, accessFlags := 9, code := some k30c1 }
def k30c2 : Code := { maxStack := 2, maxLocals := 2, code := jdk_29_method_69_code, exceptionTable := #[], attributes := #[] }
def k30m2 : Method := { name := "min", desc := "(II)I", sig := { parameters := [.int, .int], returnType := some .int }, accessFlags := 9, code := some k30c2 }
/-- java/lang/Math -/
def k30 : Class := { plain "java/lang/Math" (some 0) with
  accessFlags := 49
  interfaces := #[]
  cf := some (fileOf pool30 1 #[.nestMembers #[98]] #[{ accessFlags := 2, nameIndex := 7, descriptorIndex := 8, attributes := #[] }, { accessFlags := 9, nameIndex := 198, descriptorIndex := 335, attributes := #[] }, { accessFlags := 9, nameIndex := 201, descriptorIndex := 335, attributes := #[] }] 49 4 #[] #[{ accessFlags := 25, nameIndex := 354, descriptorIndex := 339, attributes := #[] }, { accessFlags := 25, nameIndex := 358, descriptorIndex := 339, attributes := #[] }, { accessFlags := 25, nameIndex := 361, descriptorIndex := 339, attributes := #[] }, { accessFlags := 26, nameIndex := 364, descriptorIndex := 339, attributes := #[] }, { accessFlags := 26, nameIndex := 365, descriptorIndex := 339, attributes := #[] }, { accessFlags := 26, nameIndex := 172, descriptorIndex := 173, attributes := #[] }, { accessFlags := 26, nameIndex := 176, descriptorIndex := 173, attributes := #[] }, { accessFlags := 8, nameIndex := 344, descriptorIndex := 339, attributes := #[] }, { accessFlags := 8, nameIndex := 338, descriptorIndex := 339, attributes := #[] }, { accessFlags := 4120, nameIndex := 245, descriptorIndex := 246, attributes := #[] }])
  fields := #[{ name := "E", type := .double, accessFlags := 25, slot := 0, constantValue := 0 }, { name := "PI", type := .double, accessFlags := 25, slot := 1, constantValue := 0 }, { name := "TAU", type := .double, accessFlags := 25, slot := 2, constantValue := 0 }, { name := "DEGREES_TO_RADIANS", type := .double, accessFlags := 26, slot := 3, constantValue := 0 }, { name := "RADIANS_TO_DEGREES", type := .double, accessFlags := 26, slot := 4, constantValue := 0 }, { name := "negativeZeroFloatBits", type := .long, accessFlags := 26, slot := 5, constantValue := 0 }, { name := "negativeZeroDoubleBits", type := .long, accessFlags := 26, slot := 6, constantValue := 0 }, { name := "twoToTheDoubleScaleUp", type := .double, accessFlags := 8, slot := 7, constantValue := 0 }, { name := "twoToTheDoubleScaleDown", type := .double, accessFlags := 8, slot := 8, constantValue := 0 }, { name := "$assertionsDisabled", type := .boolean, accessFlags := 4120, slot := 9, constantValue := 0 }]
  methods := #[k30m0, k30m1, k30m2]
  instanceTypes := #[]
  staticTypes := #[.double, .double, .double, .double, .double, .long, .long, .double, .double, .boolean]
  resolved := Array.replicate 460 none
  statics := none }

def pool31 : Array CpInfo := pool [(2, .class_ 4), (1, u "java/lang/Object"), (0, u "<init>"), (0, u "()V"), (35, .class_ 44), (1, u "java/util/Objects"), (60, .methodref 106 107), (0, .class_ 108), (0, .nameAndType 109 110), (0, u "jdk/internal/util/Preconditions"), (0, u "checkIndex"), (0, u "(IILjava/util/function/BiFunction;)I"), (60, u "(II)I")] 12

def k31m0 : Method := { name := "<init>", desc := "()V", sig := { parameters := [], returnType := none }, accessFlags := 2, code := none }
def k31c1 : Code := { maxStack := 3, maxLocals := 2, code := jdk_31_method_17_code, exceptionTable := #[], attributes := #[] }
def k31m1 : Method := { name := "checkIndex", desc := "(II)I", sig := { parameters := [.int, .int], returnType := some .int }, accessFlags := 9, code := some k31c1 }
/-- java/util/Objects -/
def k31 : Class := { plain "java/util/Objects" (some 0) with
  accessFlags := 49
  interfaces := #[]
  cf := some (fileOf pool31 42 #[] #[{ accessFlags := 2, nameIndex := 5, descriptorIndex := 6, attributes := #[] }, { accessFlags := 9, nameIndex := 109, descriptorIndex := 171, attributes := #[] }] 49 2 #[] #[])
  fields := #[]
  methods := #[k31m0, k31m1]
  instanceTypes := #[]
  staticTypes := #[]
  resolved := Array.replicate 184 none
  statics := none }

def pool32 : Array CpInfo := pool [(2, .class_ 4), (1, u "java/lang/Object"), (0, u "<init>"), (0, u "()V"), (17, .class_ 26), (1, u "jdk/internal/util/Preconditions"), (6, u "checkIndex"), (21, .class_ 56), (0, u "jdk/internal/util/Preconditions$4"), (57, .class_ 115), (0, u "jdk/internal/util/Preconditions$1"), (7, u "SIOOBE_FORMATTER"), (0, u "Ljava/util/function/BiFunction;"), (0, .class_ 126), (0, u "jdk/internal/util/Preconditions$2"), (3, u "AIOOBE_FORMATTER"), (0, .class_ 132), (0, u "jdk/internal/util/Preconditions$3"), (3, u "IOOBE_FORMATTER"), (41, u "(IILjava/util/function/BiFunction;)I")] 15

def k32m0 : Method := { name := "<init>", desc := "()V", sig := { parameters := [], returnType := none }, accessFlags := 1, code := none }
def k32c1 : Code := { maxStack := 3, maxLocals := 3, code := jdk_41_method_11_code, exceptionTable := #[], attributes := #[] }
def k32m1 : Method := { name := "checkIndex", desc := "(IILjava/util/function/BiFunction;)I", sig := { parameters := [.int, .int, (.object "java/util/function/BiFunction")], returnType := some .int }, accessFlags := 9, code := some k32c1 }
/-- jdk/internal/util/Preconditions -/
def k32 : Class := { plain "jdk/internal/util/Preconditions" (some 0) with
  accessFlags := 33
  interfaces := #[]
  cf := some (fileOf pool32 24 #[.nestMembers #[55, 131, 125, 114]] #[{ accessFlags := 1, nameIndex := 5, descriptorIndex := 6, attributes := #[] }, { accessFlags := 9, nameIndex := 33, descriptorIndex := 178, attributes := #[] }] 33 2 #[] #[{ accessFlags := 25, nameIndex := 123, descriptorIndex := 124, attributes := #[] }, { accessFlags := 25, nameIndex := 130, descriptorIndex := 124, attributes := #[] }, { accessFlags := 25, nameIndex := 136, descriptorIndex := 124, attributes := #[] }])
  fields := #[{ name := "SIOOBE_FORMATTER", type := (.object "java/util/function/BiFunction"), accessFlags := 25, slot := 0, constantValue := 0 }, { name := "AIOOBE_FORMATTER", type := (.object "java/util/function/BiFunction"), accessFlags := 25, slot := 1, constantValue := 0 }, { name := "IOOBE_FORMATTER", type := (.object "java/util/function/BiFunction"), accessFlags := 25, slot := 2, constantValue := 0 }]
  methods := #[k32m0, k32m1]
  instanceTypes := #[]
  staticTypes := #[(.object "java/util/function/BiFunction"), (.object "java/util/function/BiFunction"), (.object "java/util/function/BiFunction")]
  resolved := Array.replicate 194 none
  statics := some 2 }

def pool33 : Array CpInfo := pool [(1, .methodref 2 3), (0, .class_ 4), (0, .nameAndType 5 6), (0, u "java/lang/Object"), (0, u "<init>"), (0, u "()V"), (1, .class_ 10), (1, u "java/lang/Number"), (2, .class_ 14), (0, u "java/io/Serializable"), (0, u "serialVersionUID"), (0, u "J")] 20

def k33c0 : Code := { maxStack := 1, maxLocals := 1, code := jdk_18_method_1_code, exceptionTable := #[], attributes := #[] }
def k33m0 : Method := { name := "<init>", desc := "()V", sig := { parameters := [], returnType := none }, accessFlags := 1, code := some k33c0 }
/-- java/lang/Number -/
def k33 : Class := { plain "java/lang/Number" (some 0) with
  accessFlags := 1057
  interfaces := #[2]
  cf := some (fileOf pool33 8 #[] #[{ accessFlags := 1, nameIndex := 5, descriptorIndex := 6, attributes := #[] }] 1057 2 #[13] #[{ accessFlags := 26, nameIndex := 15, descriptorIndex := 16, attributes := #[] }])
  fields := #[{ name := "serialVersionUID", type := .long, accessFlags := 26, slot := 0, constantValue := 0 }]
  methods := #[k33m0]
  instanceTypes := #[]
  staticTypes := #[.long]
  resolved := Array.replicate 37 none
  statics := none }

def pool34 : Array CpInfo := pool [(1, .class_ 2), (0, u "java/lang/Integer"), (16, u "digits"), (0, u "[C"), (46, u "<init>"), (17, u "DigitOnes"), (0, u "[B"), (2, u "DigitTens"), (10, .nameAndType 67 101), (0, u "()V"), (19, u "()I"), (65, u "valueOf"), (0, u "(I)Ljava/lang/Integer;"), (0, .class_ 190), (0, u "java/lang/Integer$IntegerCache"), (0, .fieldref 189 192), (0, .nameAndType 193 194), (0, u "high"), (0, u "I"), (0, .fieldref 189 196), (0, .nameAndType 197 198), (0, u "cache"), (0, u "[Ljava/lang/Integer;"), (0, .methodref 1 200), (0, .nameAndType 67 201), (0, u "(I)V"), (0, .methodref 203 100), (0, .class_ 204), (0, u "java/lang/Number"), (0, .fieldref 1 206), (0, .nameAndType 207 194), (0, u "value"), (5, u "intValue"), (88, u "TYPE"), (0, u "Ljava/lang/Class;"), (0, .class_ 305), (0, u "java/lang/Comparable"), (0, .class_ 307), (0, u "java/lang/constant/Constable"), (0, .class_ 309), (0, u "java/lang/constant/ConstantDesc"), (0, u "MIN_VALUE"), (1, u "MAX_VALUE"), (3, u "SIZE"), (1, u "BYTES"), (1, u "serialVersionUID"), (0, u "J")] 131

def k34c0 : Code := { maxStack := 3, maxLocals := 1, code := jdk_33_method_22_code, exceptionTable := #[], attributes := #[] }
def k34m0 : Method := { name := "valueOf", desc := "(I)Ljava/lang/Integer;", sig := { parameters := [.int], returnType := some (.object "java/lang/Integer") }, accessFlags := 9, code := some k34c0 }
def k34c1 : Code := { maxStack := 2, maxLocals := 2, code := jdk_33_method_23_code, exceptionTable := #[], attributes := #[] }
def k34m1 : Method := { name := "<init>", desc := "(I)V", sig := { parameters := [.int], returnType := none }, accessFlags := 1, code := some k34c1 }
def k34c2 : Code := { maxStack := 1, maxLocals := 1, code := jdk_33_method_27_code, exceptionTable := #[], attributes := #[] }
def k34m2 : Method := { name := "intValue", desc := "()I", sig := { parameters := [], returnType := some .int }, accessFlags := 1, code := some k34c2 }
/-- java/lang/Integer -/
def k34 : Class := { plain "java/lang/Integer" (some 33) with
  accessFlags := 49
  interfaces := #[3, 5, 6]
  cf := some (fileOf pool34 1 #[.nestMembers #[189]] #[{ accessFlags := 9, nameIndex := 187, descriptorIndex := 188, attributes := #[] }, { accessFlags := 1, nameIndex := 67, descriptorIndex := 201, attributes := #[] }, { accessFlags := 1, nameIndex := 213, descriptorIndex := 121, attributes := #[] }] 49 203 #[304, 306, 308] #[{ accessFlags := 25, nameIndex := 310, descriptorIndex := 194, attributes := #[] }, { accessFlags := 25, nameIndex := 312, descriptorIndex := 194, attributes := #[] }, { accessFlags := 25, nameIndex := 302, descriptorIndex := 303, attributes := #[] }, { accessFlags := 24, nameIndex := 19, descriptorIndex := 20, attributes := #[] }, { accessFlags := 24, nameIndex := 89, descriptorIndex := 86, attributes := #[] }, { accessFlags := 24, nameIndex := 85, descriptorIndex := 86, attributes := #[] }, { accessFlags := 18, nameIndex := 207, descriptorIndex := 194, attributes := #[] }, { accessFlags := 25, nameIndex := 316, descriptorIndex := 194, attributes := #[] }, { accessFlags := 25, nameIndex := 318, descriptorIndex := 194, attributes := #[] }, { accessFlags := 26, nameIndex := 320, descriptorIndex := 321, attributes := #[] }])
  fields := #[{ name := "MIN_VALUE", type := .int, accessFlags := 25, slot := 0, constantValue := 0 }, { name := "MAX_VALUE", type := .int, accessFlags := 25, slot := 1, constantValue := 0 }, { name := "TYPE", type := (.object "java/lang/Class"), accessFlags := 25, slot := 2, constantValue := 0 }, { name := "digits", type := (.array .char), accessFlags := 24, slot := 3, constantValue := 0 }, { name := "DigitTens", type := (.array .byte), accessFlags := 24, slot := 4, constantValue := 0 }, { name := "DigitOnes", type := (.array .byte), accessFlags := 24, slot := 5, constantValue := 0 }, { name := "value", type := .int, accessFlags := 18, slot := 0, constantValue := 0 }, { name := "SIZE", type := .int, accessFlags := 25, slot := 6, constantValue := 0 }, { name := "BYTES", type := .int, accessFlags := 25, slot := 7, constantValue := 0 }, { name := "serialVersionUID", type := .long, accessFlags := 26, slot := 8, constantValue := 0 }]
  methods := #[k34m0, k34m1, k34m2]
  instanceTypes := #[.int]
  staticTypes := #[.int, .int, (.object "java/lang/Class"), (.array .char), (.array .byte), (.array .byte), .int, .int, .long]
  resolved := Array.replicate 453 none
  statics := none }

def pool35 : Array CpInfo := pool [(2, .class_ 4), (1, u "java/lang/Object"), (0, u "<init>"), (0, u "()V"), (0, .class_ 8), (0, u "java/lang/Integer"), (7, .class_ 18), (1, u "java/lang/Integer$IntegerCache"), (0, u "$assertionsDisabled"), (0, u "Z"), (26, u "high"), (0, u "I"), (8, u "archivedCache"), (0, u "[Ljava/lang/Integer;"), (12, u "cache"), (0, u "low")] 27

def k35m0 : Method := { name := "<init>", desc := "()V", sig := { parameters := [], returnType := none }, accessFlags := 2, code := none }
/-- java/lang/Integer$IntegerCache -/
def k35 : Class := { plain "java/lang/Integer$IntegerCache" (some 0) with
  accessFlags := 48
  interfaces := #[]
  cf := some (fileOf pool35 16 #[.nestHost 7] #[{ accessFlags := 2, nameIndex := 5, descriptorIndex := 6, attributes := #[] }] 48 2 #[] #[{ accessFlags := 24, nameIndex := 72, descriptorIndex := 48, attributes := #[] }, { accessFlags := 24, nameIndex := 47, descriptorIndex := 48, attributes := #[] }, { accessFlags := 24, nameIndex := 71, descriptorIndex := 58, attributes := #[] }, { accessFlags := 8, nameIndex := 57, descriptorIndex := 58, attributes := #[] }, { accessFlags := 4120, nameIndex := 19, descriptorIndex := 20, attributes := #[] }])
  fields := #[{ name := "low", type := .int, accessFlags := 24, slot := 0, constantValue := 0 }, { name := "high", type := .int, accessFlags := 24, slot := 1, constantValue := 0 }, { name := "cache", type := (.array (.object "java/lang/Integer")), accessFlags := 24, slot := 2, constantValue := 0 }, { name := "archivedCache", type := (.array (.object "java/lang/Integer")), accessFlags := 8, slot := 3, constantValue := 0 }, { name := "$assertionsDisabled", type := .boolean, accessFlags := 4120, slot := 4, constantValue := 0 }]
  methods := #[k35m0]
  instanceTypes := #[]
  staticTypes := #[.int, .int, (.array (.object "java/lang/Integer")), (.array (.object "java/lang/Integer")), .boolean]
  resolved := Array.replicate 100 none
  statics := some 3 }

def pool36 : Array CpInfo := pool [(23, .class_ 25), (1, u "java/util/Map$Entry"), (6, .class_ 34), (1, u "java/util/Map"), (34, .class_ 70), (0, u "java/lang/Object")] 107

/-- java/util/Map$Entry -/
def k36 : Class := { plain "java/util/Map$Entry" (some 0) with
  accessFlags := 1537
  interfaces := #[]
  cf := some (fileOf pool36 23 #[.nestHost 32] #[] 1537 69 #[] #[])
  fields := #[]
  methods := #[]
  instanceTypes := #[]
  staticTypes := #[]
  resolved := Array.replicate 178 none
  statics := none }

def pool37 : Array CpInfo := pool [(1, .methodref 2 3), (0, .class_ 4), (0, .nameAndType 5 6), (0, u "java/lang/Object"), (0, u "<init>"), (0, u "()V"), (0, .fieldref 8 9), (0, .class_ 10), (0, .nameAndType 11 12), (0, u "java/util/HashMap$Node"), (0, u "hash"), (0, u "I"), (0, .fieldref 8 14), (0, .nameAndType 15 16), (0, u "key"), (0, u "Ljava/lang/Object;"), (0, .fieldref 8 18), (0, .nameAndType 19 16), (0, u "value"), (0, .fieldref 8 21), (0, .nameAndType 22 23), (0, u "next"), (0, u "Ljava/util/HashMap$Node;"), (22, .class_ 47), (0, u "java/util/Map$Entry"), (15, u "(ILjava/lang/Object;Ljava/lang/Object;Ljava/util/HashMap$Node;)V"), (24, .class_ 89), (0, u "java/util/HashMap")] 5

def k37c0 : Code := { maxStack := 2, maxLocals := 5, code := jdk_70_method_1_code, exceptionTable := #[], attributes := #[] }
def k37m0 : Method := { name := "<init>", desc := "(ILjava/lang/Object;Ljava/lang/Object;Ljava/util/HashMap$Node;)V", sig := { parameters := [.int, (.object "java/lang/Object"), (.object "java/lang/Object"), (.object "java/util/HashMap$Node")], returnType := none }, accessFlags := 0, code := some k37c0 }
/-- java/util/HashMap$Node -/
def k37 : Class := { plain "java/util/HashMap$Node" (some 0) with
  accessFlags := 32
  interfaces := #[36]
  cf := some (fileOf pool37 8 #[.nestHost 88] #[{ accessFlags := 0, nameIndex := 5, descriptorIndex := 63, attributes := #[] }] 32 2 #[46] #[{ accessFlags := 16, nameIndex := 11, descriptorIndex := 12, attributes := #[] }, { accessFlags := 16, nameIndex := 15, descriptorIndex := 16, attributes := #[] }, { accessFlags := 0, nameIndex := 19, descriptorIndex := 16, attributes := #[] }, { accessFlags := 0, nameIndex := 22, descriptorIndex := 23, attributes := #[] }])
  fields := #[{ name := "hash", type := .int, accessFlags := 16, slot := 0, constantValue := 0 }, { name := "key", type := (.object "java/lang/Object"), accessFlags := 16, slot := 1, constantValue := 0 }, { name := "value", type := (.object "java/lang/Object"), accessFlags := 0, slot := 2, constantValue := 0 }, { name := "next", type := (.object "java/util/HashMap$Node"), accessFlags := 0, slot := 3, constantValue := 0 }]
  methods := #[k37m0]
  instanceTypes := #[.int, (.object "java/lang/Object"), (.object "java/lang/Object"), (.object "java/util/HashMap$Node")]
  staticTypes := #[]
  resolved := Array.replicate 95 none
  statics := none }

def pool38 : Array CpInfo := pool [(2, .class_ 4), (1, u "java/lang/Object"), (0, u "<init>"), (0, u "()V"), (1, .class_ 10), (1, u "java/lang/System"), (0, u "allowSecurityManager"), (0, u "I"), (16, u "cons"), (0, u "Ljava/io/Console;"), (77, .class_ 110), (1, u "java/lang/System$CallersHolder"), (43, u "initialErrStream"), (0, u "Ljava/io/PrintStream;"), (19, u "security"), (0, u "Ljava/lang/SecurityManager;"), (31, .class_ 209), (0, u "java/lang/System$1"), (7, u "props"), (0, u "Ljava/util/Properties;"), (2, u "lineSeparator"), (0, u "Ljava/lang/String;"), (96, .class_ 321), (1, u "java/lang/System$LoggerFinder"), (5, .class_ 328), (0, u "java/lang/System$Logger"), (67, u "err"), (2, u "out"), (91, u "notSupportedJnuEncoding"), (15, u "in"), (17, u "initialIn"), (0, u "Ljava/io/InputStream;"), (35, u "bootLayer"), (0, u "Ljava/lang/ModuleLayer;"), (99, .class_ 664), (0, u "java/lang/System$2"), (9, u "NEVER"), (2, u "MAYBE"), (49, u "arraycopy"), (0, u "(Ljava/lang/Object;ILjava/lang/Object;II)V"), (72, .class_ 802), (0, u "java/lang/System$Logger$Level")] 31

def k38m0 : Method := { name := "<init>", desc := "()V", sig := { parameters := [], returnType := none }, accessFlags := 2, code := none }
def k38m1 : Method := { name := "arraycopy", desc := "(Ljava/lang/Object;ILjava/lang/Object;II)V", sig := { parameters := [(.object "java/lang/Object"), .int, (.object "java/lang/Object"), .int, .int], returnType := none }, accessFlags := 265, code := none }
/-- java/lang/System -/
def k38 : Class := { plain "java/lang/System" (some 0) with
  accessFlags := 49
  interfaces := #[]
  cf := some (fileOf pool38 8 #[.nestMembers #[319, 327, 801, 108, 663, 208]] #[{ accessFlags := 2, nameIndex := 5, descriptorIndex := 6, attributes := #[] }, { accessFlags := 265, nameIndex := 727, descriptorIndex := 728, attributes := #[] }] 49 2 #[] #[{ accessFlags := 25, nameIndex := 507, descriptorIndex := 526, attributes := #[] }, { accessFlags := 25, nameIndex := 399, descriptorIndex := 155, attributes := #[] }, { accessFlags := 25, nameIndex := 396, descriptorIndex := 155, attributes := #[] }, { accessFlags := 10, nameIndex := 525, descriptorIndex := 526, attributes := #[] }, { accessFlags := 26, nameIndex := 674, descriptorIndex := 12, attributes := #[] }, { accessFlags := 26, nameIndex := 677, descriptorIndex := 12, attributes := #[] }, { accessFlags := 10, nameIndex := 11, descriptorIndex := 12, attributes := #[] }, { accessFlags := 74, nameIndex := 175, descriptorIndex := 176, attributes := #[] }, { accessFlags := 10, nameIndex := 491, descriptorIndex := 222, attributes := #[] }, { accessFlags := 74, nameIndex := 29, descriptorIndex := 30, attributes := #[] }, { accessFlags := 74, nameIndex := 154, descriptorIndex := 155, attributes := #[] }, { accessFlags := 10, nameIndex := 217, descriptorIndex := 218, attributes := #[] }, { accessFlags := 10, nameIndex := 221, descriptorIndex := 222, attributes := #[] }, { accessFlags := 8, nameIndex := 562, descriptorIndex := 563, attributes := #[] }])
  fields := #[{ name := "in", type := (.object "java/io/InputStream"), accessFlags := 25, slot := 0, constantValue := 0 }, { name := "out", type := (.object "java/io/PrintStream"), accessFlags := 25, slot := 1, constantValue := 0 }, { name := "err", type := (.object "java/io/PrintStream"), accessFlags := 25, slot := 2, constantValue := 0 }, { name := "initialIn", type := (.object "java/io/InputStream"), accessFlags := 10, slot := 3, constantValue := 0 }, { name := "NEVER", type := .int, accessFlags := 26, slot := 4, constantValue := 0 }, { name := "MAYBE", type := .int, accessFlags := 26, slot := 5, constantValue := 0 }, { name := "allowSecurityManager", type := .int, accessFlags := 10, slot := 6, constantValue := 0 }, { name := "security", type := (.object "java/lang/SecurityManager"), accessFlags := 74, slot := 7, constantValue := 0 }, { name := "notSupportedJnuEncoding", type := (.object "java/lang/String"), accessFlags := 10, slot := 8, constantValue := 0 }, { name := "cons", type := (.object "java/io/Console"), accessFlags := 74, slot := 9, constantValue := 0 }, { name := "initialErrStream", type := (.object "java/io/PrintStream"), accessFlags := 74, slot := 10, constantValue := 0 }, { name := "props", type := (.object "java/util/Properties"), accessFlags := 10, slot := 11, constantValue := 0 }, { name := "lineSeparator", type := (.object "java/lang/String"), accessFlags := 10, slot := 12, constantValue := 0 }, { name := "bootLayer", type := (.object "java/lang/ModuleLayer"), accessFlags := 8, slot := 13, constantValue := 0 }]
  methods := #[k38m0, k38m1]
  instanceTypes := #[]
  staticTypes := #[(.object "java/io/InputStream"), (.object "java/io/PrintStream"), (.object "java/io/PrintStream"), (.object "java/io/InputStream"), .int, .int, .int, (.object "java/lang/SecurityManager"), (.object "java/lang/String"), (.object "java/io/Console"), (.object "java/io/PrintStream"), (.object "java/util/Properties"), (.object "java/lang/String"), (.object "java/lang/ModuleLayer")]
  resolved := Array.replicate 834 none
  statics := none }

def pool39 : Array CpInfo := pool [(9, u "<init>"), (6, .class_ 18), (1, u "java/lang/Object"), (0, u "()V"), (1, .class_ 23), (1, u "jdk/internal/util/ArraysSupport"), (0, u "LOG2_ARRAY_LONG_INDEX_SCALE"), (0, u "I"), (2, u "U"), (0, u "Ljdk/internal/misc/Unsafe;"), (8, u "BIG_ENDIAN"), (0, u "Z"), (8, u "LOG2_BYTE_BIT_SIZE"), (4, u "LOG2_ARRAY_INT_INDEX_SCALE"), (54, u "JLA"), (0, u "Ljdk/internal/access/JavaLangAccess;"), (11, u "LOG2_ARRAY_BOOLEAN_INDEX_SCALE"), (9, u "LOG2_ARRAY_BYTE_INDEX_SCALE"), (5, u "LOG2_ARRAY_CHAR_INDEX_SCALE"), (5, u "LOG2_ARRAY_SHORT_INDEX_SCALE"), (18, u "LOG2_ARRAY_FLOAT_INDEX_SCALE"), (24, u "LOG2_ARRAY_DOUBLE_INDEX_SCALE"), (89, u "T_BOOLEAN"), (2, u "T_CHAR"), (1, u "T_FLOAT"), (1, u "T_DOUBLE"), (1, u "T_BYTE"), (1, u "T_SHORT"), (1, u "T_INT"), (1, u "T_LONG"), (1, u "SOFT_MAX_ARRAY_LENGTH")] 83

def k39m0 : Method := { name := "<init>", desc := "()V", sig := { parameters := [], returnType := none }, accessFlags := 2, code := none }
/-- jdk/internal/util/ArraysSupport -/
def k39 : Class := { plain "jdk/internal/util/ArraysSupport" (some 0) with
  accessFlags := 33
  interfaces := #[]
  cf := some (fileOf pool39 21 #[] #[{ accessFlags := 2, nameIndex := 9, descriptorIndex := 19, attributes := #[] }] 33 16 #[] #[{ accessFlags := 24, nameIndex := 28, descriptorIndex := 29, attributes := #[] }, { accessFlags := 26, nameIndex := 38, descriptorIndex := 39, attributes := #[] }, { accessFlags := 25, nameIndex := 121, descriptorIndex := 25, attributes := #[] }, { accessFlags := 25, nameIndex := 131, descriptorIndex := 25, attributes := #[] }, { accessFlags := 25, nameIndex := 137, descriptorIndex := 25, attributes := #[] }, { accessFlags := 25, nameIndex := 143, descriptorIndex := 25, attributes := #[] }, { accessFlags := 25, nameIndex := 53, descriptorIndex := 25, attributes := #[] }, { accessFlags := 25, nameIndex := 24, descriptorIndex := 25, attributes := #[] }, { accessFlags := 25, nameIndex := 162, descriptorIndex := 25, attributes := #[] }, { accessFlags := 25, nameIndex := 187, descriptorIndex := 25, attributes := #[] }, { accessFlags := 26, nameIndex := 48, descriptorIndex := 25, attributes := #[] }, { accessFlags := 25, nameIndex := 277, descriptorIndex := 25, attributes := #[] }, { accessFlags := 25, nameIndex := 280, descriptorIndex := 25, attributes := #[] }, { accessFlags := 25, nameIndex := 282, descriptorIndex := 25, attributes := #[] }, { accessFlags := 25, nameIndex := 284, descriptorIndex := 25, attributes := #[] }, { accessFlags := 25, nameIndex := 286, descriptorIndex := 25, attributes := #[] }, { accessFlags := 25, nameIndex := 288, descriptorIndex := 25, attributes := #[] }, { accessFlags := 25, nameIndex := 290, descriptorIndex := 25, attributes := #[] }, { accessFlags := 25, nameIndex := 292, descriptorIndex := 25, attributes := #[] }, { accessFlags := 26, nameIndex := 108, descriptorIndex := 109, attributes := #[] }, { accessFlags := 25, nameIndex := 294, descriptorIndex := 25, attributes := #[] }])
  fields := #[{ name := "U", type := (.object "jdk/internal/misc/Unsafe"), accessFlags := 24, slot := 0, constantValue := 0 }, { name := "BIG_ENDIAN", type := .boolean, accessFlags := 26, slot := 1, constantValue := 0 }, { name := "LOG2_ARRAY_BOOLEAN_INDEX_SCALE", type := .int, accessFlags := 25, slot := 2, constantValue := 0 }, { name := "LOG2_ARRAY_BYTE_INDEX_SCALE", type := .int, accessFlags := 25, slot := 3, constantValue := 0 }, { name := "LOG2_ARRAY_CHAR_INDEX_SCALE", type := .int, accessFlags := 25, slot := 4, constantValue := 0 }, { name := "LOG2_ARRAY_SHORT_INDEX_SCALE", type := .int, accessFlags := 25, slot := 5, constantValue := 0 }, { name := "LOG2_ARRAY_INT_INDEX_SCALE", type := .int, accessFlags := 25, slot := 6, constantValue := 0 }, { name := "LOG2_ARRAY_LONG_INDEX_SCALE", type := .int, accessFlags := 25, slot := 7, constantValue := 0 }, { name := "LOG2_ARRAY_FLOAT_INDEX_SCALE", type := .int, accessFlags := 25, slot := 8, constantValue := 0 }, { name := "LOG2_ARRAY_DOUBLE_INDEX_SCALE", type := .int, accessFlags := 25, slot := 9, constantValue := 0 }, { name := "LOG2_BYTE_BIT_SIZE", type := .int, accessFlags := 26, slot := 10, constantValue := 0 }, { name := "T_BOOLEAN", type := .int, accessFlags := 25, slot := 11, constantValue := 0 }, { name := "T_CHAR", type := .int, accessFlags := 25, slot := 12, constantValue := 0 }, { name := "T_FLOAT", type := .int, accessFlags := 25, slot := 13, constantValue := 0 }, { name := "T_DOUBLE", type := .int, accessFlags := 25, slot := 14, constantValue := 0 }, { name := "T_BYTE", type := .int, accessFlags := 25, slot := 15, constantValue := 0 }, { name := "T_SHORT", type := .int, accessFlags := 25, slot := 16, constantValue := 0 }, { name := "T_INT", type := .int, accessFlags := 25, slot := 17, constantValue := 0 }, { name := "T_LONG", type := .int, accessFlags := 25, slot := 18, constantValue := 0 }, { name := "JLA", type := (.object "jdk/internal/access/JavaLangAccess"), accessFlags := 26, slot := 19, constantValue := 0 }, { name := "SOFT_MAX_ARRAY_LENGTH", type := .int, accessFlags := 25, slot := 20, constantValue := 0 }]
  methods := #[k39m0]
  instanceTypes := #[]
  staticTypes := #[(.object "jdk/internal/misc/Unsafe"), .boolean, .int, .int, .int, .int, .int, .int, .int, .int, .int, .int, .int, .int, .int, .int, .int, .int, .int, (.object "jdk/internal/access/JavaLangAccess"), .int]
  resolved := Array.replicate 378 none
  statics := none }

/-- the primitive byte -/
def k40 : Class := { plain "byte" none with kind := .primitive 'B', accessFlags := 0x411 }
/-- [B -/
def k41 : Class := { plain "[B" (some 0) with kind := .array 40 .byte, interfaces := #[18, 2], accessFlags := 1041 }

/-- the primitive int -/
def k42 : Class := { plain "int" none with kind := .primitive 'I', accessFlags := 0x411 }
/-- [I -/
def k43 : Class := { plain "[I" (some 0) with kind := .array 42 .int, interfaces := #[18, 2], accessFlags := 1041 }

/-- [Ljava/lang/Integer; -/
def k44 : Class := { plain "[Ljava/lang/Integer;" (some 0) with kind := .array 34 (.object "java/lang/Integer"), interfaces := #[18, 2], accessFlags := 1041 }

/-- [Ljava/lang/Object; -/
def k45 : Class := { plain "[Ljava/lang/Object;" (some 0) with kind := .array 0 (.object "java/lang/Object"), interfaces := #[18, 2], accessFlags := 1041 }

/-- [Ljava/util/HashMap$Node; -/
def k46 : Class := { plain "[Ljava/util/HashMap$Node;" (some 0) with kind := .array 37 (.object "java/util/HashMap$Node"), interfaces := #[18, 2], accessFlags := 1041 }

def bx (v : Int32) : Cell := { cls := 34, slots := #[.int v], vm := .none }
def heap : Heap := #[{ cls := 7, slots := #[.long 0, .int 1, .null, .int 0, .null, .int 0, .int 0], vm := .statics 7 },
  { cls := 19, slots := #[.long 0, .int 0, .ref 4, .ref 5], vm := .statics 19 },
  { cls := 32, slots := #[.null, .null, .null], vm := .statics 32 },
  { cls := 35, slots := #[.int 0, .int 127, .ref 6, .null, .int 0], vm := .statics 35 },
  { cls := 45, slots := #[], vm := .none },
  { cls := 45, slots := #[], vm := .none },
  { cls := 44, slots := #[.ref 7, .ref 8, .ref 9, .ref 10, .ref 11, .ref 12, .ref 13, .ref 14, .ref 15, .ref 16, .ref 17, .ref 18, .ref 19, .ref 20, .ref 21, .ref 22, .ref 23, .ref 24, .ref 25, .ref 26, .ref 27, .ref 28, .ref 29, .ref 30, .ref 31, .ref 32, .ref 33, .ref 34, .ref 35, .ref 36, .ref 37, .ref 38, .ref 39, .ref 40, .ref 41, .ref 42, .ref 43, .ref 44, .ref 45, .ref 46, .ref 47, .ref 48, .ref 49, .ref 50, .ref 51, .ref 52, .ref 53, .ref 54, .ref 55, .ref 56, .ref 57, .ref 58, .ref 59, .ref 60, .ref 61, .ref 62, .ref 63, .ref 64, .ref 65, .ref 66, .ref 67, .ref 68, .ref 69, .ref 70, .ref 71, .ref 72, .ref 73, .ref 74, .ref 75, .ref 76, .ref 77, .ref 78, .ref 79, .ref 80, .ref 81, .ref 82, .ref 83, .ref 84, .ref 85, .ref 86, .ref 87, .ref 88, .ref 89, .ref 90, .ref 91, .ref 92, .ref 93, .ref 94, .ref 95, .ref 96, .ref 97, .ref 98, .ref 99, .ref 100, .ref 101, .ref 102, .ref 103, .ref 104, .ref 105, .ref 106, .ref 107, .ref 108, .ref 109, .ref 110, .ref 111, .ref 112, .ref 113, .ref 114, .ref 115, .ref 116, .ref 117, .ref 118, .ref 119, .ref 120, .ref 121, .ref 122, .ref 123, .ref 124, .ref 125, .ref 126, .ref 127, .ref 128, .ref 129, .ref 130, .ref 131, .ref 132, .ref 133, .ref 134, .ref 135, .ref 136, .ref 137, .ref 138, .ref 139, .ref 140, .ref 141, .ref 142, .ref 143, .ref 144, .ref 145, .ref 146, .ref 147, .ref 148, .ref 149, .ref 150, .ref 151, .ref 152, .ref 153, .ref 154, .ref 155, .ref 156, .ref 157, .ref 158, .ref 159, .ref 160, .ref 161, .ref 162, .ref 163, .ref 164, .ref 165, .ref 166, .ref 167, .ref 168, .ref 169, .ref 170, .ref 171, .ref 172, .ref 173, .ref 174, .ref 175, .ref 176, .ref 177, .ref 178, .ref 179, .ref 180, .ref 181, .ref 182, .ref 183, .ref 184, .ref 185, .ref 186, .ref 187, .ref 188, .ref 189, .ref 190, .ref 191, .ref 192, .ref 193, .ref 194, .ref 195, .ref 196, .ref 197, .ref 198, .ref 199, .ref 200, .ref 201, .ref 202, .ref 203, .ref 204, .ref 205, .ref 206, .ref 207, .ref 208, .ref 209, .ref 210, .ref 211, .ref 212, .ref 213, .ref 214, .ref 215, .ref 216, .ref 217, .ref 218, .ref 219, .ref 220, .ref 221, .ref 222, .ref 223, .ref 224, .ref 225, .ref 226, .ref 227, .ref 228, .ref 229, .ref 230, .ref 231, .ref 232, .ref 233, .ref 234, .ref 235, .ref 236, .ref 237, .ref 238, .ref 239, .ref 240, .ref 241, .ref 242, .ref 243, .ref 244, .ref 245, .ref 246, .ref 247, .ref 248, .ref 249, .ref 250, .ref 251, .ref 252, .ref 253, .ref 254, .ref 255, .ref 256, .ref 257, .ref 258, .ref 259, .ref 260, .ref 261, .ref 262], vm := .none },
  bx (-128), bx (-127), bx (-126), bx (-125), bx (-124), bx (-123), bx (-122), bx (-121), bx (-120), bx (-119), bx (-118), bx (-117), bx (-116), bx (-115), bx (-114), bx (-113), bx (-112), bx (-111), bx (-110), bx (-109), bx (-108), bx (-107), bx (-106), bx (-105), bx (-104), bx (-103), bx (-102), bx (-101), bx (-100), bx (-99), bx (-98), bx (-97), bx (-96), bx (-95), bx (-94), bx (-93), bx (-92), bx (-91), bx (-90), bx (-89), bx (-88), bx (-87), bx (-86), bx (-85), bx (-84), bx (-83), bx (-82), bx (-81), bx (-80), bx (-79), bx (-78), bx (-77), bx (-76), bx (-75), bx (-74), bx (-73), bx (-72), bx (-71), bx (-70), bx (-69), bx (-68), bx (-67), bx (-66), bx (-65), bx (-64), bx (-63), bx (-62), bx (-61), bx (-60), bx (-59), bx (-58), bx (-57), bx (-56), bx (-55), bx (-54), bx (-53), bx (-52), bx (-51), bx (-50), bx (-49), bx (-48), bx (-47), bx (-46), bx (-45), bx (-44), bx (-43), bx (-42), bx (-41), bx (-40), bx (-39), bx (-38), bx (-37), bx (-36), bx (-35), bx (-34), bx (-33), bx (-32), bx (-31), bx (-30), bx (-29), bx (-28), bx (-27), bx (-26), bx (-25), bx (-24), bx (-23), bx (-22), bx (-21), bx (-20), bx (-19), bx (-18), bx (-17), bx (-16), bx (-15), bx (-14), bx (-13), bx (-12), bx (-11), bx (-10), bx (-9), bx (-8), bx (-7), bx (-6), bx (-5), bx (-4), bx (-3), bx (-2), bx (-1), bx 0, bx 1, bx 2, bx 3, bx 4, bx 5, bx 6, bx 7, bx 8, bx 9, bx 10, bx 11, bx 12, bx 13, bx 14, bx 15, bx 16, bx 17, bx 18, bx 19, bx 20, bx 21, bx 22, bx 23, bx 24, bx 25, bx 26, bx 27, bx 28, bx 29, bx 30, bx 31, bx 32, bx 33, bx 34, bx 35, bx 36, bx 37, bx 38, bx 39, bx 40, bx 41, bx 42, bx 43, bx 44, bx 45, bx 46, bx 47, bx 48, bx 49, bx 50, bx 51, bx 52, bx 53, bx 54, bx 55, bx 56, bx 57, bx 58, bx 59, bx 60, bx 61, bx 62, bx 63, bx 64, bx 65, bx 66, bx 67, bx 68, bx 69, bx 70, bx 71, bx 72, bx 73, bx 74, bx 75, bx 76, bx 77, bx 78, bx 79, bx 80, bx 81, bx 82, bx 83, bx 84, bx 85, bx 86, bx 87, bx 88, bx 89, bx 90, bx 91, bx 92, bx 93, bx 94, bx 95, bx 96, bx 97, bx 98, bx 99, bx 100, bx 101, bx 102, bx 103, bx 104, bx 105, bx 106, bx 107, bx 108, bx 109, bx 110, bx 111, bx 112, bx 113, bx 114, bx 115, bx 116, bx 117, bx 118, bx 119, bx 120, bx 121, bx 122, bx 123, bx 124, bx 125, bx 126, bx 127]
def classes : Array Class := #[k0, k1, k2, k3, k4, k5, k6, k7, k8, k9, k10, k11, k12, k13, k14, k15, k16, k17, k18, k19, k20, k21, k22, k23, k24, k25, k26, k27, k28, k29, k30, k31, k32, k33, k34, k35, k36, k37, k38, k39, k40, k41, k42, k43, k44, k45, k46]
def interned : List (Array UInt16 × Addr) := []
def slotsUsed : Nat := 531
def theMethod : MethodId := ⟨1, 1⟩
def args0 : Array Value := #[.int 3, .int 4, .int 5, .int 6, .int 7, .int 8]
def aboutOver (below : List Frame) : State where
  vm := { classes := classes, interned := interned.toArray }
  heap := heap
  slotsUsed := slotsUsed
  threads := #[{ frames := .invoking theMethod args0 :: below }]
def below0 : List Frame := [.native { method := ⟨0, 0⟩, args := #[] }]
def about1 : State := aboutOver below0
def p0 : Program := .bare "" "" ""
def e0 : Env := launch0.env 0 0 0
theorem w_frames : about1.frames = Frame.invoking theMethod args0 :: below0 := rfl
set_option maxRecDepth 65536 in
theorem w_args : argsFit about1.vm theMethod args0 = true := by decide +kernel
set_option maxRecDepth 65536 in
theorem w_heap : heapFits about1 = true := by decide +kernel
set_option maxRecDepth 65536 in
theorem w_runnable : about1.curStatus? = some .runnable := by decide +kernel
set_option maxRecDepth 65536 in
theorem w_alone : about1.alone = true := by decide +kernel
set_option maxRecDepth 65536 in
theorem w_named : about1.methodNamed? x = some theMethod := by decide +kernel
set_option maxRecDepth 65536 in
theorem w_hears : about1.hears theMethod below0 = true := by decide +kernel
set_option maxRecDepth 65536 in
theorem w_ripe : about1.ripe theMethod args0 below0 = true := by decide +kernel
theorem w_running : about1.status = .running := rfl
set_option maxRecDepth 65536 in
theorem w_room : about1.hasRoom e0.platform room_1 = true :=
  launch0.hasRoom_least _ room_1 (by decide +kernel) (by decide +kernel) (by decide +kernel) (by decide +kernel) (by decide +kernel) (by decide +kernel)
theorem allAtoms_all (ts : List Jvm.Cond) (a : Array Jvm.Value) (st : Jvm.State) : (allAtoms ts).before a st = ts.all (fun c => c.before a st) := by
  induction ts with
  | nil => rfl
  | cons c t ih =>
    show (Jvm.Cond.and c (allAtoms t)).before a st = _
    rw [Jvm.Cond.before_and, ih, List.all_cons]
def words1 : List Jvm.Cond := Jvm.Cond.code x code maxLocals ret :: tables_1
/-- a 'code' word, met by the world's own term for the bytes: nothing is compared byte by byte -/
theorem code_word {y : MethodName} {bytes : ByteArray} {mx : Nat} {rt : Option FieldType} {a : Array Value} {s : State} {m : MethodId} {meth : Method} {c : Code} (h1 : s.methodNamed? y = some m) (h2 : s.vm.method? m = some meth) (h3 : meth.code = some c) (h4 : c.code = bytes)
    (h5 : (c.maxLocals == mx && c.exceptionTable.isEmpty && decide (c.maxStack ≤ mostOperands) && decide (meth.sig.returnType = rt) && !meth.locks && decide (parseMethodDescriptor y.desc = some meth.sig)) = true) : (Jvm.Cond.code y bytes mx rt).before a s = true := by
  simp only [Bool.and_eq_true, beq_iff_eq, Bool.not_eq_true', decide_eq_true_eq] at h5
  obtain ⟨⟨⟨⟨⟨g1, g2⟩, g3⟩, g4⟩, g5⟩, g6⟩ := h5
  simp [Cond.before, Cond.holds, Cond.value, h1, h2, h3, h4, g1, g2, g3, g4, g5, g6]
def isCode : Jvm.Cond → Bool
  | .code _ _ _ _ => true
  | _ => false
theorem all_split {L : List Jvm.Cond} {P : Jvm.Cond → Bool} (h1 : L.all (fun c => isCode c || P c) = true) (h2 : ∀ c ∈ L.filter isCode, P c = true) : L.all P = true := by
  refine List.all_eq_true.mpr fun c hc => ?_
  have h := List.all_eq_true.mp h1 c hc
  rcases Bool.eq_false_or_eq_true (isCode c) with hi | hi
  · exact h2 c (List.mem_filter.mpr ⟨hc, hi⟩)
  · simpa [hi] using h
set_option maxRecDepth 65536 in
theorem w_c0 : (Jvm.Cond.code x code maxLocals ret).before args0 about1 = true := code_word (m := ⟨1, 1⟩) (meth := k1m1) (c := k1c1) (by decide +kernel) rfl rfl rfl (by decide +kernel)
set_option maxRecDepth 65536 in
theorem w_c1 : (Jvm.Cond.code ({ cls := "java/lang/String", name := "valueOf", desc := "(C)Ljava/lang/String;" } : Jvm.MethodName) jdk_42_method_139_code (1 : Nat) (Option.some (Jvm.ClassFile.FieldType.object "java/lang/String"))).before args0 about1 = true := code_word (m := ⟨7, 2⟩) (meth := k7m2) (c := k7c2) (by decide +kernel) rfl rfl rfl (by decide +kernel)
set_option maxRecDepth 65536 in
theorem w_c2 : (Jvm.Cond.code ({ cls := "java/lang/StringLatin1", name := "canEncode", desc := "(C)Z" } : Jvm.MethodName) jdk_43_method_3_code (1 : Nat) (Option.some Jvm.ClassFile.FieldType.boolean)).before args0 about1 = true := code_word (m := ⟨8, 1⟩) (meth := k8m1) (c := k8c1) (by decide +kernel) rfl rfl rfl (by decide +kernel)
set_option maxRecDepth 65536 in
theorem w_c3 : (Jvm.Cond.code ({ cls := "java/lang/StringLatin1", name := "toBytes", desc := "(C)[B" } : Jvm.MethodName) jdk_43_method_46_code (1 : Nat) (Option.some (Jvm.ClassFile.FieldType.array Jvm.ClassFile.FieldType.byte))).before args0 about1 = true := code_word (m := ⟨8, 3⟩) (meth := k8m3) (c := k8c3) (by decide +kernel) rfl rfl rfl (by decide +kernel)
set_option maxRecDepth 65536 in
theorem w_c4 : (Jvm.Cond.code ({ cls := "java/lang/String", name := "<init>", desc := "([BB)V" } : Jvm.MethodName) jdk_42_method_151_code (3 : Nat) (Option.none : Option Jvm.ClassFile.FieldType)).before args0 about1 = true := code_word (m := ⟨7, 3⟩) (meth := k7m3) (c := k7c3) (by decide +kernel) rfl rfl rfl (by decide +kernel)
set_option maxRecDepth 65536 in
theorem w_c5 : (Jvm.Cond.code ({ cls := "java/lang/Object", name := "<init>", desc := "()V" } : Jvm.MethodName) object_method_1_code (1 : Nat) (Option.none : Option Jvm.ClassFile.FieldType)).before args0 about1 = true := code_word (m := ⟨0, 0⟩) (meth := k0m0) (c := k0c0) (by decide +kernel) rfl rfl rfl (by decide +kernel)
set_option maxRecDepth 65536 in
theorem w_c6 : (Jvm.Cond.code ({ cls := "com/example/libacross/libacross/format/Hit", name := "<init>", desc := "(Ljava/lang/String;D)V" } : Jvm.MethodName) prog_20_method_1_code (4 : Nat) (Option.none : Option Jvm.ClassFile.FieldType)).before args0 about1 = true := code_word (m := ⟨10, 0⟩) (meth := k10m0) (c := k10c0) (by decide +kernel) rfl rfl rfl (by decide +kernel)
set_option maxRecDepth 65536 in
theorem w_c7 : (Jvm.Cond.code ({ cls := "java/lang/Record", name := "<init>", desc := "()V" } : Jvm.MethodName) jdk_30_method_1_code (1 : Nat) (Option.none : Option Jvm.ClassFile.FieldType)).before args0 about1 = true := code_word (m := ⟨9, 0⟩) (meth := k9m0) (c := k9c0) (by decide +kernel) rfl rfl rfl (by decide +kernel)
set_option maxRecDepth 65536 in
theorem w_c8 : (Jvm.Cond.code ({ cls := "java/util/ArrayList", name := "<init>", desc := "()V" } : Jvm.MethodName) jdk_38_method_2_code (1 : Nat) (Option.none : Option Jvm.ClassFile.FieldType)).before args0 about1 = true := code_word (m := ⟨19, 0⟩) (meth := k19m0) (c := k19c0) (by decide +kernel) rfl rfl rfl (by decide +kernel)
set_option maxRecDepth 65536 in
theorem w_c9 : (Jvm.Cond.code ({ cls := "java/util/AbstractList", name := "<init>", desc := "()V" } : Jvm.MethodName) jdk_39_method_1_code (1 : Nat) (Option.none : Option Jvm.ClassFile.FieldType)).before args0 about1 = true := code_word (m := ⟨16, 0⟩) (meth := k16m0) (c := k16c0) (by decide +kernel) rfl rfl rfl (by decide +kernel)
set_option maxRecDepth 65536 in
theorem w_c10 : (Jvm.Cond.code ({ cls := "java/util/AbstractCollection", name := "<init>", desc := "()V" } : Jvm.MethodName) jdk_22_method_1_code (1 : Nat) (Option.none : Option Jvm.ClassFile.FieldType)).before args0 about1 = true := code_word (m := ⟨13, 0⟩) (meth := k13m0) (c := k13c0) (by decide +kernel) rfl rfl rfl (by decide +kernel)
set_option maxRecDepth 65536 in
theorem w_c11 : (Jvm.Cond.code ({ cls := "java/util/HashMap", name := "<init>", desc := "()V" } : Jvm.MethodName) jdk_69_method_7_code (1 : Nat) (Option.none : Option Jvm.ClassFile.FieldType)).before args0 about1 = true := code_word (m := ⟨22, 1⟩) (meth := k22m1) (c := k22c1) (by decide +kernel) rfl rfl rfl (by decide +kernel)
set_option maxRecDepth 65536 in
theorem w_c12 : (Jvm.Cond.code ({ cls := "java/util/AbstractMap", name := "<init>", desc := "()V" } : Jvm.MethodName) jdk_71_method_1_code (1 : Nat) (Option.none : Option Jvm.ClassFile.FieldType)).before args0 about1 = true := code_word (m := ⟨21, 0⟩) (meth := k21m0) (c := k21c0) (by decide +kernel) rfl rfl rfl (by decide +kernel)
set_option maxRecDepth 65536 in
theorem w_c13 : (Jvm.Cond.code ({ cls := "com/example/libacross/libacross/eval/JudgedRankingReciprocalRankPinLaw", name := "expected", desc := "(IIIII)D" } : Jvm.MethodName) method_3_code (5 : Nat) (Option.some Jvm.ClassFile.FieldType.double)).before args0 about1 = true := code_word (m := ⟨1, 2⟩) (meth := k1m2) (c := k1c2) (by decide +kernel) rfl rfl rfl (by decide +kernel)
set_option maxRecDepth 65536 in
theorem w_c14 : (Jvm.Cond.code ({ cls := "com/example/libacross/libacross/eval/JudgedRanking", name := "<init>", desc := "(Ljava/util/List;Ljava/util/Map;)V" } : Jvm.MethodName) prog_4_method_1_code (7 : Nat) (Option.none : Option Jvm.ClassFile.FieldType)).before args0 about1 = true := code_word (m := ⟨23, 0⟩) (meth := k23m0) (c := k23c0) (by decide +kernel) rfl rfl rfl (by decide +kernel)
set_option maxRecDepth 65536 in
theorem w_c15 : (Jvm.Cond.code ({ cls := "java/util/ArrayList", name := "size", desc := "()I" } : Jvm.MethodName) jdk_38_method_8_code (1 : Nat) (Option.some Jvm.ClassFile.FieldType.int)).before args0 about1 = true := code_word (m := ⟨19, 3⟩) (meth := k19m3) (c := k19c3) (by decide +kernel) rfl rfl rfl (by decide +kernel)
set_option maxRecDepth 65536 in
theorem w_c16 : (Jvm.Cond.code ({ cls := "java/util/HashMap", name := "size", desc := "()I" } : Jvm.MethodName) jdk_69_method_10_code (1 : Nat) (Option.some Jvm.ClassFile.FieldType.int)).before args0 about1 = true := code_word (m := ⟨22, 2⟩) (meth := k22m2) (c := k22c2) (by decide +kernel) rfl rfl rfl (by decide +kernel)
set_option maxRecDepth 65536 in
theorem w_c17 : (Jvm.Cond.code ({ cls := "java/util/HashMap", name := "values", desc := "()Ljava/util/Collection;" } : Jvm.MethodName) jdk_69_method_28_code (2 : Nat) (Option.some (Jvm.ClassFile.FieldType.object "java/util/Collection"))).before args0 about1 = true := code_word (m := ⟨22, 7⟩) (meth := k22m7) (c := k22c7) (by decide +kernel) rfl rfl rfl (by decide +kernel)
set_option maxRecDepth 65536 in
theorem w_c18 : (Jvm.Cond.code ({ cls := "java/util/HashMap$Values", name := "<init>", desc := "(Ljava/util/HashMap;)V" } : Jvm.MethodName) jdk_2571_method_1_code (2 : Nat) (Option.none : Option Jvm.ClassFile.FieldType)).before args0 about1 = true := code_word (m := ⟨24, 0⟩) (meth := k24m0) (c := k24c0) (by decide +kernel) rfl rfl rfl (by decide +kernel)
set_option maxRecDepth 65536 in
theorem w_c19 : (Jvm.Cond.code ({ cls := "java/util/HashMap$Values", name := "iterator", desc := "()Ljava/util/Iterator;" } : Jvm.MethodName) jdk_2571_method_4_code (1 : Nat) (Option.some (Jvm.ClassFile.FieldType.object "java/util/Iterator"))).before args0 about1 = true := code_word (m := ⟨24, 1⟩) (meth := k24m1) (c := k24c1) (by decide +kernel) rfl rfl rfl (by decide +kernel)
set_option maxRecDepth 65536 in
theorem w_c20 : (Jvm.Cond.code ({ cls := "java/util/HashMap$ValueIterator", name := "<init>", desc := "(Ljava/util/HashMap;)V" } : Jvm.MethodName) jdk_2569_method_1_code (2 : Nat) (Option.none : Option Jvm.ClassFile.FieldType)).before args0 about1 = true := code_word (m := ⟨27, 0⟩) (meth := k27m0) (c := k27c0) (by decide +kernel) rfl rfl rfl (by decide +kernel)
set_option maxRecDepth 65536 in
theorem w_c21 : (Jvm.Cond.code ({ cls := "java/util/HashMap$HashIterator", name := "<init>", desc := "(Ljava/util/HashMap;)V" } : Jvm.MethodName) jdk_99_method_1_code (3 : Nat) (Option.none : Option Jvm.ClassFile.FieldType)).before args0 about1 = true := code_word (m := ⟨25, 0⟩) (meth := k25m0) (c := k25c0) (by decide +kernel) rfl rfl rfl (by decide +kernel)
set_option maxRecDepth 65536 in
theorem w_c22 : (Jvm.Cond.code ({ cls := "java/util/HashMap$HashIterator", name := "hasNext", desc := "()Z" } : Jvm.MethodName) jdk_99_method_2_code (1 : Nat) (Option.some Jvm.ClassFile.FieldType.boolean)).before args0 about1 = true := code_word (m := ⟨25, 1⟩) (meth := k25m1) (c := k25c1) (by decide +kernel) rfl rfl rfl (by decide +kernel)
set_option maxRecDepth 65536 in
theorem w_c23 : (Jvm.Cond.code ({ cls := "java/util/Arrays", name := "copyOf", desc := "([II)[I" } : Jvm.MethodName) jdk_65_method_123_code (3 : Nat) (Option.some (Jvm.ClassFile.FieldType.array Jvm.ClassFile.FieldType.int))).before args0 about1 = true := code_word (m := ⟨28, 2⟩) (meth := k28m2) (c := k28c2) (by decide +kernel) rfl rfl rfl (by decide +kernel)
set_option maxRecDepth 65536 in
theorem w_c24 : (Jvm.Cond.code ({ cls := "java/util/Arrays", name := "sort", desc := "([I)V" } : Jvm.MethodName) jdk_65_method_2_code (1 : Nat) (Option.none : Option Jvm.ClassFile.FieldType)).before args0 about1 = true := code_word (m := ⟨28, 1⟩) (meth := k28m1) (c := k28c1) (by decide +kernel) rfl rfl rfl (by decide +kernel)
set_option maxRecDepth 65536 in
theorem w_c25 : (Jvm.Cond.code ({ cls := "java/util/DualPivotQuicksort", name := "sort", desc := "([IIII)V" } : Jvm.MethodName) jdk_2529_method_3_code (7 : Nat) (Option.none : Option Jvm.ClassFile.FieldType)).before args0 about1 = true := code_word (m := ⟨29, 1⟩) (meth := k29m1) (c := k29c1) (by decide +kernel) rfl rfl rfl (by decide +kernel)
set_option maxRecDepth 65536 in
theorem w_c26 : (Jvm.Cond.code ({ cls := "java/util/DualPivotQuicksort", name := "sort", desc := "(Ljava/util/DualPivotQuicksort$Sorter;[IIII)V" } : Jvm.MethodName) jdk_2529_method_4_code (21 : Nat) (Option.none : Option Jvm.ClassFile.FieldType)).before args0 about1 = true := code_word (m := ⟨29, 2⟩) (meth := k29m2) (c := k29c2) (by decide +kernel) rfl rfl rfl (by decide +kernel)
set_option maxRecDepth 65536 in
theorem w_c27 : (Jvm.Cond.code ({ cls := "java/util/DualPivotQuicksort", name := "insertionSort", desc := "([III)V" } : Jvm.MethodName) jdk_2529_method_6_code (6 : Nat) (Option.none : Option Jvm.ClassFile.FieldType)).before args0 about1 = true := code_word (m := ⟨29, 3⟩) (meth := k29m3) (c := k29c3) (by decide +kernel) rfl rfl rfl (by decide +kernel)
set_option maxRecDepth 65536 in
theorem w_c28 : (Jvm.Cond.code ({ cls := "com/example/libacross/libacross/eval/JudgedRanking", name := "reciprocalRank", desc := "()D" } : Jvm.MethodName) prog_4_method_3_code (2 : Nat) (Option.some Jvm.ClassFile.FieldType.double)).before args0 about1 = true := code_word (m := ⟨23, 1⟩) (meth := k23m1) (c := k23c1) (by decide +kernel) rfl rfl rfl (by decide +kernel)
set_option maxRecDepth 65536 in
theorem w_c29 : (Jvm.Cond.code ({ cls := "java/util/ArrayList", name := "add", desc := "(Ljava/lang/Object;)Z" } : Jvm.MethodName) jdk_38_method_25_code (2 : Nat) (Option.some Jvm.ClassFile.FieldType.boolean)).before args0 about1 = true := code_word (m := ⟨19, 7⟩) (meth := k19m7) (c := k19c7) (by decide +kernel) rfl rfl rfl (by decide +kernel)
set_option maxRecDepth 65536 in
theorem w_c30 : (Jvm.Cond.code ({ cls := "java/util/ArrayList", name := "add", desc := "(Ljava/lang/Object;[Ljava/lang/Object;I)V" } : Jvm.MethodName) jdk_38_method_24_code (4 : Nat) (Option.none : Option Jvm.ClassFile.FieldType)).before args0 about1 = true := code_word (m := ⟨19, 6⟩) (meth := k19m6) (c := k19c6) (by decide +kernel) rfl rfl rfl (by decide +kernel)
set_option maxRecDepth 65536 in
theorem w_c31 : (Jvm.Cond.code ({ cls := "java/util/ArrayList", name := "grow", desc := "()[Ljava/lang/Object;" } : Jvm.MethodName) jdk_38_method_7_code (1 : Nat) (Option.some (Jvm.ClassFile.FieldType.array (Jvm.ClassFile.FieldType.object "java/lang/Object")))).before args0 about1 = true := code_word (m := ⟨19, 2⟩) (meth := k19m2) (c := k19c2) (by decide +kernel) rfl rfl rfl (by decide +kernel)
set_option maxRecDepth 65536 in
theorem w_c32 : (Jvm.Cond.code ({ cls := "java/util/ArrayList", name := "grow", desc := "(I)[Ljava/lang/Object;" } : Jvm.MethodName) jdk_38_method_6_code (4 : Nat) (Option.some (Jvm.ClassFile.FieldType.array (Jvm.ClassFile.FieldType.object "java/lang/Object")))).before args0 about1 = true := code_word (m := ⟨19, 1⟩) (meth := k19m1) (c := k19c1) (by decide +kernel) rfl rfl rfl (by decide +kernel)
set_option maxRecDepth 65536 in
theorem w_c33 : (Jvm.Cond.code ({ cls := "java/lang/Math", name := "max", desc := "(II)I" } : Jvm.MethodName) jdk_29_method_65_code (2 : Nat) (Option.some Jvm.ClassFile.FieldType.int)).before args0 about1 = true := code_word (m := ⟨30, 1⟩) (meth := k30m1) (c := k30c1) (by decide +kernel) rfl rfl rfl (by decide +kernel)
set_option maxRecDepth 65536 in
theorem w_c34 : (Jvm.Cond.code ({ cls := "java/util/ArrayList", name := "get", desc := "(I)Ljava/lang/Object;" } : Jvm.MethodName) jdk_38_method_20_code (2 : Nat) (Option.some (Jvm.ClassFile.FieldType.object "java/lang/Object"))).before args0 about1 = true := code_word (m := ⟨19, 5⟩) (meth := k19m5) (c := k19c5) (by decide +kernel) rfl rfl rfl (by decide +kernel)
set_option maxRecDepth 65536 in
theorem w_c35 : (Jvm.Cond.code ({ cls := "java/util/Objects", name := "checkIndex", desc := "(II)I" } : Jvm.MethodName) jdk_31_method_17_code (2 : Nat) (Option.some Jvm.ClassFile.FieldType.int)).before args0 about1 = true := code_word (m := ⟨31, 1⟩) (meth := k31m1) (c := k31c1) (by decide +kernel) rfl rfl rfl (by decide +kernel)
set_option maxRecDepth 65536 in
theorem w_c36 : (Jvm.Cond.code ({ cls := "jdk/internal/util/Preconditions", name := "checkIndex", desc := "(IILjava/util/function/BiFunction;)I" } : Jvm.MethodName) jdk_41_method_11_code (3 : Nat) (Option.some Jvm.ClassFile.FieldType.int)).before args0 about1 = true := code_word (m := ⟨32, 1⟩) (meth := k32m1) (c := k32c1) (by decide +kernel) rfl rfl rfl (by decide +kernel)
set_option maxRecDepth 65536 in
theorem w_c37 : (Jvm.Cond.code ({ cls := "java/util/ArrayList", name := "elementData", desc := "(I)Ljava/lang/Object;" } : Jvm.MethodName) jdk_38_method_18_code (2 : Nat) (Option.some (Jvm.ClassFile.FieldType.object "java/lang/Object"))).before args0 about1 = true := code_word (m := ⟨19, 4⟩) (meth := k19m4) (c := k19c4) (by decide +kernel) rfl rfl rfl (by decide +kernel)
set_option maxRecDepth 65536 in
theorem w_c38 : (Jvm.Cond.code ({ cls := "com/example/libacross/libacross/format/Hit", name := "documentId", desc := "()Ljava/lang/String;" } : Jvm.MethodName) prog_20_method_7_code (1 : Nat) (Option.some (Jvm.ClassFile.FieldType.object "java/lang/String"))).before args0 about1 = true := code_word (m := ⟨10, 1⟩) (meth := k10m1) (c := k10c1) (by decide +kernel) rfl rfl rfl (by decide +kernel)
set_option maxRecDepth 65536 in
theorem w_c39 : (Jvm.Cond.code ({ cls := "java/lang/Integer", name := "valueOf", desc := "(I)Ljava/lang/Integer;" } : Jvm.MethodName) jdk_33_method_22_code (1 : Nat) (Option.some (Jvm.ClassFile.FieldType.object "java/lang/Integer"))).before args0 about1 = true := code_word (m := ⟨34, 0⟩) (meth := k34m0) (c := k34c0) (by decide +kernel) rfl rfl rfl (by decide +kernel)
set_option maxRecDepth 65536 in
theorem w_c40 : (Jvm.Cond.code ({ cls := "java/util/HashMap", name := "getOrDefault", desc := "(Ljava/lang/Object;Ljava/lang/Object;)Ljava/lang/Object;" } : Jvm.MethodName) jdk_69_method_30_code (4 : Nat) (Option.some (Jvm.ClassFile.FieldType.object "java/lang/Object"))).before args0 about1 = true := code_word (m := ⟨22, 8⟩) (meth := k22m8) (c := k22c8) (by decide +kernel) rfl rfl rfl (by decide +kernel)
set_option maxRecDepth 65536 in
theorem w_c41 : (Jvm.Cond.code ({ cls := "java/util/HashMap", name := "getNode", desc := "(Ljava/lang/Object;)Ljava/util/HashMap$Node;" } : Jvm.MethodName) jdk_69_method_13_code (8 : Nat) (Option.some (Jvm.ClassFile.FieldType.object "java/util/HashMap$Node"))).before args0 about1 = true := code_word (m := ⟨22, 3⟩) (meth := k22m3) (c := k22c3) (by decide +kernel) rfl rfl rfl (by decide +kernel)
set_option maxRecDepth 65536 in
theorem w_c42 : (Jvm.Cond.code ({ cls := "java/lang/Integer", name := "intValue", desc := "()I" } : Jvm.MethodName) jdk_33_method_27_code (1 : Nat) (Option.some Jvm.ClassFile.FieldType.int)).before args0 about1 = true := code_word (m := ⟨34, 2⟩) (meth := k34m2) (c := k34c2) (by decide +kernel) rfl rfl rfl (by decide +kernel)
set_option maxRecDepth 65536 in
theorem w_c43 : (Jvm.Cond.code ({ cls := "com/example/libacross/libacross/eval/JudgedRanking", name := "isRelevant", desc := "(I)Z" } : Jvm.MethodName) prog_4_method_10_code (2 : Nat) (Option.some Jvm.ClassFile.FieldType.boolean)).before args0 about1 = true := code_word (m := ⟨23, 2⟩) (meth := k23m2) (c := k23c2) (by decide +kernel) rfl rfl rfl (by decide +kernel)
set_option maxRecDepth 65536 in
theorem w_c44 : (Jvm.Cond.code ({ cls := "java/util/HashMap", name := "put", desc := "(Ljava/lang/Object;Ljava/lang/Object;)Ljava/lang/Object;" } : Jvm.MethodName) jdk_69_method_15_code (3 : Nat) (Option.some (Jvm.ClassFile.FieldType.object "java/lang/Object"))).before args0 about1 = true := code_word (m := ⟨22, 4⟩) (meth := k22m4) (c := k22c4) (by decide +kernel) rfl rfl rfl (by decide +kernel)
set_option maxRecDepth 65536 in
theorem w_c45 : (Jvm.Cond.code ({ cls := "java/util/HashMap", name := "hash", desc := "(Ljava/lang/Object;)I" } : Jvm.MethodName) jdk_69_method_1_code (2 : Nat) (Option.some Jvm.ClassFile.FieldType.int)).before args0 about1 = true := code_word (m := ⟨22, 0⟩) (meth := k22m0) (c := k22c0) (by decide +kernel) rfl rfl rfl (by decide +kernel)
set_option maxRecDepth 65536 in
theorem w_c46 : (Jvm.Cond.code ({ cls := "java/lang/String", name := "hashCode", desc := "()I" } : Jvm.MethodName) jdk_42_method_78_code (2 : Nat) (Option.some Jvm.ClassFile.FieldType.int)).before args0 about1 = true := code_word (m := ⟨7, 1⟩) (meth := k7m1) (c := k7c1) (by decide +kernel) rfl rfl rfl (by decide +kernel)
set_option maxRecDepth 65536 in
theorem w_c47 : (Jvm.Cond.code ({ cls := "java/lang/String", name := "isLatin1", desc := "()Z" } : Jvm.MethodName) jdk_42_method_154_code (1 : Nat) (Option.some Jvm.ClassFile.FieldType.boolean)).before args0 about1 = true := code_word (m := ⟨7, 4⟩) (meth := k7m4) (c := k7c4) (by decide +kernel) rfl rfl rfl (by decide +kernel)
set_option maxRecDepth 65536 in
theorem w_c48 : (Jvm.Cond.code ({ cls := "java/lang/StringLatin1", name := "hashCode", desc := "([B)I" } : Jvm.MethodName) jdk_43_method_21_code (1 : Nat) (Option.some Jvm.ClassFile.FieldType.int)).before args0 about1 = true := code_word (m := ⟨8, 2⟩) (meth := k8m2) (c := k8c2) (by decide +kernel) rfl rfl rfl (by decide +kernel)
set_option maxRecDepth 65536 in
theorem w_c49 : (Jvm.Cond.code ({ cls := "java/util/HashMap", name := "putVal", desc := "(ILjava/lang/Object;Ljava/lang/Object;ZZ)Ljava/lang/Object;" } : Jvm.MethodName) jdk_69_method_16_code (13 : Nat) (Option.some (Jvm.ClassFile.FieldType.object "java/lang/Object"))).before args0 about1 = true := code_word (m := ⟨22, 5⟩) (meth := k22m5) (c := k22c5) (by decide +kernel) rfl rfl rfl (by decide +kernel)
set_option maxRecDepth 65536 in
theorem w_c50 : (Jvm.Cond.code ({ cls := "java/util/HashMap", name := "resize", desc := "()[Ljava/util/HashMap$Node;" } : Jvm.MethodName) jdk_69_method_17_code (14 : Nat) (Option.some (Jvm.ClassFile.FieldType.array (Jvm.ClassFile.FieldType.object "java/util/HashMap$Node")))).before args0 about1 = true := code_word (m := ⟨22, 6⟩) (meth := k22m6) (c := k22c6) (by decide +kernel) rfl rfl rfl (by decide +kernel)
set_option maxRecDepth 65536 in
theorem w_c51 : (Jvm.Cond.code ({ cls := "java/util/HashMap", name := "newNode", desc := "(ILjava/lang/Object;Ljava/lang/Object;Ljava/util/HashMap$Node;)Ljava/util/HashMap$Node;" } : Jvm.MethodName) jdk_69_method_46_code (5 : Nat) (Option.some (Jvm.ClassFile.FieldType.object "java/util/HashMap$Node"))).before args0 about1 = true := code_word (m := ⟨22, 9⟩) (meth := k22m9) (c := k22c9) (by decide +kernel) rfl rfl rfl (by decide +kernel)
set_option maxRecDepth 65536 in
theorem w_c52 : (Jvm.Cond.code ({ cls := "java/util/HashMap$Node", name := "<init>", desc := "(ILjava/lang/Object;Ljava/lang/Object;Ljava/util/HashMap$Node;)V" } : Jvm.MethodName) jdk_70_method_1_code (5 : Nat) (Option.none : Option Jvm.ClassFile.FieldType)).before args0 about1 = true := code_word (m := ⟨37, 0⟩) (meth := k37m0) (c := k37c0) (by decide +kernel) rfl rfl rfl (by decide +kernel)
set_option maxRecDepth 65536 in
theorem w_c53 : (Jvm.Cond.code ({ cls := "java/util/HashMap", name := "afterNodeInsertion", desc := "(Z)V" } : Jvm.MethodName) jdk_69_method_52_code (2 : Nat) (Option.none : Option Jvm.ClassFile.FieldType)).before args0 about1 = true := code_word (m := ⟨22, 10⟩) (meth := k22m10) (c := k22c10) (by decide +kernel) rfl rfl rfl (by decide +kernel)
set_option maxRecDepth 65536 in
theorem w_c54 : (Jvm.Cond.code ({ cls := "java/util/HashMap$ValueIterator", name := "next", desc := "()Ljava/lang/Object;" } : Jvm.MethodName) jdk_2569_method_2_code (1 : Nat) (Option.some (Jvm.ClassFile.FieldType.object "java/lang/Object"))).before args0 about1 = true := code_word (m := ⟨27, 1⟩) (meth := k27m1) (c := k27c1) (by decide +kernel) rfl rfl rfl (by decide +kernel)
set_option maxRecDepth 65536 in
theorem w_c55 : (Jvm.Cond.code ({ cls := "java/util/HashMap$HashIterator", name := "nextNode", desc := "()Ljava/util/HashMap$Node;" } : Jvm.MethodName) jdk_99_method_3_code (3 : Nat) (Option.some (Jvm.ClassFile.FieldType.object "java/util/HashMap$Node"))).before args0 about1 = true := code_word (m := ⟨25, 2⟩) (meth := k25m2) (c := k25c2) (by decide +kernel) rfl rfl rfl (by decide +kernel)
set_option maxRecDepth 65536 in
theorem w_c56 : (Jvm.Cond.code ({ cls := "java/lang/Integer", name := "<init>", desc := "(I)V" } : Jvm.MethodName) jdk_33_method_23_code (2 : Nat) (Option.none : Option Jvm.ClassFile.FieldType)).before args0 about1 = true := code_word (m := ⟨34, 1⟩) (meth := k34m1) (c := k34c1) (by decide +kernel) rfl rfl rfl (by decide +kernel)
set_option maxRecDepth 65536 in
theorem w_c57 : (Jvm.Cond.code ({ cls := "java/lang/Number", name := "<init>", desc := "()V" } : Jvm.MethodName) jdk_18_method_1_code (1 : Nat) (Option.none : Option Jvm.ClassFile.FieldType)).before args0 about1 = true := code_word (m := ⟨33, 0⟩) (meth := k33m0) (c := k33c0) (by decide +kernel) rfl rfl rfl (by decide +kernel)
set_option maxRecDepth 65536 in
theorem w_c58 : (Jvm.Cond.code ({ cls := "java/lang/Math", name := "min", desc := "(II)I" } : Jvm.MethodName) jdk_29_method_69_code (2 : Nat) (Option.some Jvm.ClassFile.FieldType.int)).before args0 about1 = true := code_word (m := ⟨30, 2⟩) (meth := k30m2) (c := k30c2) (by decide +kernel) rfl rfl rfl (by decide +kernel)
def codes1 : List Jvm.Cond := [Jvm.Cond.code x code maxLocals ret, Jvm.Cond.code ({ cls := "java/lang/String", name := "valueOf", desc := "(C)Ljava/lang/String;" } : Jvm.MethodName) jdk_42_method_139_code (1 : Nat) (Option.some (Jvm.ClassFile.FieldType.object "java/lang/String")), Jvm.Cond.code ({ cls := "java/lang/StringLatin1", name := "canEncode", desc := "(C)Z" } : Jvm.MethodName) jdk_43_method_3_code (1 : Nat) (Option.some Jvm.ClassFile.FieldType.boolean), Jvm.Cond.code ({ cls := "java/lang/StringLatin1", name := "toBytes", desc := "(C)[B" } : Jvm.MethodName) jdk_43_method_46_code (1 : Nat) (Option.some (Jvm.ClassFile.FieldType.array Jvm.ClassFile.FieldType.byte)), Jvm.Cond.code ({ cls := "java/lang/String", name := "<init>", desc := "([BB)V" } : Jvm.MethodName) jdk_42_method_151_code (3 : Nat) (Option.none : Option Jvm.ClassFile.FieldType), Jvm.Cond.code ({ cls := "java/lang/Object", name := "<init>", desc := "()V" } : Jvm.MethodName) object_method_1_code (1 : Nat) (Option.none : Option Jvm.ClassFile.FieldType), Jvm.Cond.code ({ cls := "com/example/libacross/libacross/format/Hit", name := "<init>", desc := "(Ljava/lang/String;D)V" } : Jvm.MethodName) prog_20_method_1_code (4 : Nat) (Option.none : Option Jvm.ClassFile.FieldType), Jvm.Cond.code ({ cls := "java/lang/Record", name := "<init>", desc := "()V" } : Jvm.MethodName) jdk_30_method_1_code (1 : Nat) (Option.none : Option Jvm.ClassFile.FieldType), Jvm.Cond.code ({ cls := "java/util/ArrayList", name := "<init>", desc := "()V" } : Jvm.MethodName) jdk_38_method_2_code (1 : Nat) (Option.none : Option Jvm.ClassFile.FieldType), Jvm.Cond.code ({ cls := "java/util/AbstractList", name := "<init>", desc := "()V" } : Jvm.MethodName) jdk_39_method_1_code (1 : Nat) (Option.none : Option Jvm.ClassFile.FieldType), Jvm.Cond.code ({ cls := "java/util/AbstractCollection", name := "<init>", desc := "()V" } : Jvm.MethodName) jdk_22_method_1_code (1 : Nat) (Option.none : Option Jvm.ClassFile.FieldType), Jvm.Cond.code ({ cls := "java/util/HashMap", name := "<init>", desc := "()V" } : Jvm.MethodName) jdk_69_method_7_code (1 : Nat) (Option.none : Option Jvm.ClassFile.FieldType), Jvm.Cond.code ({ cls := "java/util/AbstractMap", name := "<init>", desc := "()V" } : Jvm.MethodName) jdk_71_method_1_code (1 : Nat) (Option.none : Option Jvm.ClassFile.FieldType), Jvm.Cond.code ({ cls := "com/example/libacross/libacross/eval/JudgedRankingReciprocalRankPinLaw", name := "expected", desc := "(IIIII)D" } : Jvm.MethodName) method_3_code (5 : Nat) (Option.some Jvm.ClassFile.FieldType.double), Jvm.Cond.code ({ cls := "com/example/libacross/libacross/eval/JudgedRanking", name := "<init>", desc := "(Ljava/util/List;Ljava/util/Map;)V" } : Jvm.MethodName) prog_4_method_1_code (7 : Nat) (Option.none : Option Jvm.ClassFile.FieldType), Jvm.Cond.code ({ cls := "java/util/ArrayList", name := "size", desc := "()I" } : Jvm.MethodName) jdk_38_method_8_code (1 : Nat) (Option.some Jvm.ClassFile.FieldType.int), Jvm.Cond.code ({ cls := "java/util/HashMap", name := "size", desc := "()I" } : Jvm.MethodName) jdk_69_method_10_code (1 : Nat) (Option.some Jvm.ClassFile.FieldType.int), Jvm.Cond.code ({ cls := "java/util/HashMap", name := "values", desc := "()Ljava/util/Collection;" } : Jvm.MethodName) jdk_69_method_28_code (2 : Nat) (Option.some (Jvm.ClassFile.FieldType.object "java/util/Collection")), Jvm.Cond.code ({ cls := "java/util/HashMap$Values", name := "<init>", desc := "(Ljava/util/HashMap;)V" } : Jvm.MethodName) jdk_2571_method_1_code (2 : Nat) (Option.none : Option Jvm.ClassFile.FieldType), Jvm.Cond.code ({ cls := "java/util/HashMap$Values", name := "iterator", desc := "()Ljava/util/Iterator;" } : Jvm.MethodName) jdk_2571_method_4_code (1 : Nat) (Option.some (Jvm.ClassFile.FieldType.object "java/util/Iterator")), Jvm.Cond.code ({ cls := "java/util/HashMap$ValueIterator", name := "<init>", desc := "(Ljava/util/HashMap;)V" } : Jvm.MethodName) jdk_2569_method_1_code (2 : Nat) (Option.none : Option Jvm.ClassFile.FieldType), Jvm.Cond.code ({ cls := "java/util/HashMap$HashIterator", name := "<init>", desc := "(Ljava/util/HashMap;)V" } : Jvm.MethodName) jdk_99_method_1_code (3 : Nat) (Option.none : Option Jvm.ClassFile.FieldType), Jvm.Cond.code ({ cls := "java/util/HashMap$HashIterator", name := "hasNext", desc := "()Z" } : Jvm.MethodName) jdk_99_method_2_code (1 : Nat) (Option.some Jvm.ClassFile.FieldType.boolean), Jvm.Cond.code ({ cls := "java/util/Arrays", name := "copyOf", desc := "([II)[I" } : Jvm.MethodName) jdk_65_method_123_code (3 : Nat) (Option.some (Jvm.ClassFile.FieldType.array Jvm.ClassFile.FieldType.int)), Jvm.Cond.code ({ cls := "java/util/Arrays", name := "sort", desc := "([I)V" } : Jvm.MethodName) jdk_65_method_2_code (1 : Nat) (Option.none : Option Jvm.ClassFile.FieldType), Jvm.Cond.code ({ cls := "java/util/DualPivotQuicksort", name := "sort", desc := "([IIII)V" } : Jvm.MethodName) jdk_2529_method_3_code (7 : Nat) (Option.none : Option Jvm.ClassFile.FieldType), Jvm.Cond.code ({ cls := "java/util/DualPivotQuicksort", name := "sort", desc := "(Ljava/util/DualPivotQuicksort$Sorter;[IIII)V" } : Jvm.MethodName) jdk_2529_method_4_code (21 : Nat) (Option.none : Option Jvm.ClassFile.FieldType), Jvm.Cond.code ({ cls := "java/util/DualPivotQuicksort", name := "insertionSort", desc := "([III)V" } : Jvm.MethodName) jdk_2529_method_6_code (6 : Nat) (Option.none : Option Jvm.ClassFile.FieldType), Jvm.Cond.code ({ cls := "com/example/libacross/libacross/eval/JudgedRanking", name := "reciprocalRank", desc := "()D" } : Jvm.MethodName) prog_4_method_3_code (2 : Nat) (Option.some Jvm.ClassFile.FieldType.double), Jvm.Cond.code ({ cls := "java/util/ArrayList", name := "add", desc := "(Ljava/lang/Object;)Z" } : Jvm.MethodName) jdk_38_method_25_code (2 : Nat) (Option.some Jvm.ClassFile.FieldType.boolean), Jvm.Cond.code ({ cls := "java/util/ArrayList", name := "add", desc := "(Ljava/lang/Object;[Ljava/lang/Object;I)V" } : Jvm.MethodName) jdk_38_method_24_code (4 : Nat) (Option.none : Option Jvm.ClassFile.FieldType), Jvm.Cond.code ({ cls := "java/util/ArrayList", name := "grow", desc := "()[Ljava/lang/Object;" } : Jvm.MethodName) jdk_38_method_7_code (1 : Nat) (Option.some (Jvm.ClassFile.FieldType.array (Jvm.ClassFile.FieldType.object "java/lang/Object"))), Jvm.Cond.code ({ cls := "java/util/ArrayList", name := "grow", desc := "(I)[Ljava/lang/Object;" } : Jvm.MethodName) jdk_38_method_6_code (4 : Nat) (Option.some (Jvm.ClassFile.FieldType.array (Jvm.ClassFile.FieldType.object "java/lang/Object"))), Jvm.Cond.code ({ cls := "java/lang/Math", name := "max", desc := "(II)I" } : Jvm.MethodName) jdk_29_method_65_code (2 : Nat) (Option.some Jvm.ClassFile.FieldType.int), Jvm.Cond.code ({ cls := "java/util/ArrayList", name := "get", desc := "(I)Ljava/lang/Object;" } : Jvm.MethodName) jdk_38_method_20_code (2 : Nat) (Option.some (Jvm.ClassFile.FieldType.object "java/lang/Object")), Jvm.Cond.code ({ cls := "java/util/Objects", name := "checkIndex", desc := "(II)I" } : Jvm.MethodName) jdk_31_method_17_code (2 : Nat) (Option.some Jvm.ClassFile.FieldType.int), Jvm.Cond.code ({ cls := "jdk/internal/util/Preconditions", name := "checkIndex", desc := "(IILjava/util/function/BiFunction;)I" } : Jvm.MethodName) jdk_41_method_11_code (3 : Nat) (Option.some Jvm.ClassFile.FieldType.int), Jvm.Cond.code ({ cls := "java/util/ArrayList", name := "elementData", desc := "(I)Ljava/lang/Object;" } : Jvm.MethodName) jdk_38_method_18_code (2 : Nat) (Option.some (Jvm.ClassFile.FieldType.object "java/lang/Object")), Jvm.Cond.code ({ cls := "com/example/libacross/libacross/format/Hit", name := "documentId", desc := "()Ljava/lang/String;" } : Jvm.MethodName) prog_20_method_7_code (1 : Nat) (Option.some (Jvm.ClassFile.FieldType.object "java/lang/String")), Jvm.Cond.code ({ cls := "java/lang/Integer", name := "valueOf", desc := "(I)Ljava/lang/Integer;" } : Jvm.MethodName) jdk_33_method_22_code (1 : Nat) (Option.some (Jvm.ClassFile.FieldType.object "java/lang/Integer")), Jvm.Cond.code ({ cls := "java/util/HashMap", name := "getOrDefault", desc := "(Ljava/lang/Object;Ljava/lang/Object;)Ljava/lang/Object;" } : Jvm.MethodName) jdk_69_method_30_code (4 : Nat) (Option.some (Jvm.ClassFile.FieldType.object "java/lang/Object")), Jvm.Cond.code ({ cls := "java/util/HashMap", name := "getNode", desc := "(Ljava/lang/Object;)Ljava/util/HashMap$Node;" } : Jvm.MethodName) jdk_69_method_13_code (8 : Nat) (Option.some (Jvm.ClassFile.FieldType.object "java/util/HashMap$Node")), Jvm.Cond.code ({ cls := "java/lang/Integer", name := "intValue", desc := "()I" } : Jvm.MethodName) jdk_33_method_27_code (1 : Nat) (Option.some Jvm.ClassFile.FieldType.int), Jvm.Cond.code ({ cls := "com/example/libacross/libacross/eval/JudgedRanking", name := "isRelevant", desc := "(I)Z" } : Jvm.MethodName) prog_4_method_10_code (2 : Nat) (Option.some Jvm.ClassFile.FieldType.boolean), Jvm.Cond.code ({ cls := "java/util/HashMap", name := "put", desc := "(Ljava/lang/Object;Ljava/lang/Object;)Ljava/lang/Object;" } : Jvm.MethodName) jdk_69_method_15_code (3 : Nat) (Option.some (Jvm.ClassFile.FieldType.object "java/lang/Object")), Jvm.Cond.code ({ cls := "java/util/HashMap", name := "hash", desc := "(Ljava/lang/Object;)I" } : Jvm.MethodName) jdk_69_method_1_code (2 : Nat) (Option.some Jvm.ClassFile.FieldType.int), Jvm.Cond.code ({ cls := "java/lang/String", name := "hashCode", desc := "()I" } : Jvm.MethodName) jdk_42_method_78_code (2 : Nat) (Option.some Jvm.ClassFile.FieldType.int), Jvm.Cond.code ({ cls := "java/lang/String", name := "isLatin1", desc := "()Z" } : Jvm.MethodName) jdk_42_method_154_code (1 : Nat) (Option.some Jvm.ClassFile.FieldType.boolean), Jvm.Cond.code ({ cls := "java/lang/StringLatin1", name := "hashCode", desc := "([B)I" } : Jvm.MethodName) jdk_43_method_21_code (1 : Nat) (Option.some Jvm.ClassFile.FieldType.int), Jvm.Cond.code ({ cls := "java/util/HashMap", name := "putVal", desc := "(ILjava/lang/Object;Ljava/lang/Object;ZZ)Ljava/lang/Object;" } : Jvm.MethodName) jdk_69_method_16_code (13 : Nat) (Option.some (Jvm.ClassFile.FieldType.object "java/lang/Object")), Jvm.Cond.code ({ cls := "java/util/HashMap", name := "resize", desc := "()[Ljava/util/HashMap$Node;" } : Jvm.MethodName) jdk_69_method_17_code (14 : Nat) (Option.some (Jvm.ClassFile.FieldType.array (Jvm.ClassFile.FieldType.object "java/util/HashMap$Node"))), Jvm.Cond.code ({ cls := "java/util/HashMap", name := "newNode", desc := "(ILjava/lang/Object;Ljava/lang/Object;Ljava/util/HashMap$Node;)Ljava/util/HashMap$Node;" } : Jvm.MethodName) jdk_69_method_46_code (5 : Nat) (Option.some (Jvm.ClassFile.FieldType.object "java/util/HashMap$Node")), Jvm.Cond.code ({ cls := "java/util/HashMap$Node", name := "<init>", desc := "(ILjava/lang/Object;Ljava/lang/Object;Ljava/util/HashMap$Node;)V" } : Jvm.MethodName) jdk_70_method_1_code (5 : Nat) (Option.none : Option Jvm.ClassFile.FieldType), Jvm.Cond.code ({ cls := "java/util/HashMap", name := "afterNodeInsertion", desc := "(Z)V" } : Jvm.MethodName) jdk_69_method_52_code (2 : Nat) (Option.none : Option Jvm.ClassFile.FieldType), Jvm.Cond.code ({ cls := "java/util/HashMap$ValueIterator", name := "next", desc := "()Ljava/lang/Object;" } : Jvm.MethodName) jdk_2569_method_2_code (1 : Nat) (Option.some (Jvm.ClassFile.FieldType.object "java/lang/Object")), Jvm.Cond.code ({ cls := "java/util/HashMap$HashIterator", name := "nextNode", desc := "()Ljava/util/HashMap$Node;" } : Jvm.MethodName) jdk_99_method_3_code (3 : Nat) (Option.some (Jvm.ClassFile.FieldType.object "java/util/HashMap$Node")), Jvm.Cond.code ({ cls := "java/lang/Integer", name := "<init>", desc := "(I)V" } : Jvm.MethodName) jdk_33_method_23_code (2 : Nat) (Option.none : Option Jvm.ClassFile.FieldType), Jvm.Cond.code ({ cls := "java/lang/Number", name := "<init>", desc := "()V" } : Jvm.MethodName) jdk_18_method_1_code (1 : Nat) (Option.none : Option Jvm.ClassFile.FieldType), Jvm.Cond.code ({ cls := "java/lang/Math", name := "min", desc := "(II)I" } : Jvm.MethodName) jdk_29_method_69_code (2 : Nat) (Option.some Jvm.ClassFile.FieldType.int)]
set_option maxRecDepth 65536 in
theorem codes_eq : words1.filter isCode = codes1 := rfl
theorem w_codes : ∀ c ∈ words1.filter isCode, c.before args0 about1 = true := by
  rw [codes_eq]
  intro c hc
  simp only [codes1, List.mem_cons, List.not_mem_nil, or_false] at hc
  rcases hc with rfl | rfl | rfl | rfl | rfl | rfl | rfl | rfl | rfl | rfl | rfl | rfl | rfl | rfl | rfl | rfl | rfl | rfl | rfl | rfl | rfl | rfl | rfl | rfl | rfl | rfl | rfl | rfl | rfl | rfl | rfl | rfl | rfl | rfl | rfl | rfl | rfl | rfl | rfl | rfl | rfl | rfl | rfl | rfl | rfl | rfl | rfl | rfl | rfl | rfl | rfl | rfl | rfl | rfl | rfl | rfl | rfl | rfl | rfl
  · exact w_c0
  · exact w_c1
  · exact w_c2
  · exact w_c3
  · exact w_c4
  · exact w_c5
  · exact w_c6
  · exact w_c7
  · exact w_c8
  · exact w_c9
  · exact w_c10
  · exact w_c11
  · exact w_c12
  · exact w_c13
  · exact w_c14
  · exact w_c15
  · exact w_c16
  · exact w_c17
  · exact w_c18
  · exact w_c19
  · exact w_c20
  · exact w_c21
  · exact w_c22
  · exact w_c23
  · exact w_c24
  · exact w_c25
  · exact w_c26
  · exact w_c27
  · exact w_c28
  · exact w_c29
  · exact w_c30
  · exact w_c31
  · exact w_c32
  · exact w_c33
  · exact w_c34
  · exact w_c35
  · exact w_c36
  · exact w_c37
  · exact w_c38
  · exact w_c39
  · exact w_c40
  · exact w_c41
  · exact w_c42
  · exact w_c43
  · exact w_c44
  · exact w_c45
  · exact w_c46
  · exact w_c47
  · exact w_c48
  · exact w_c49
  · exact w_c50
  · exact w_c51
  · exact w_c52
  · exact w_c53
  · exact w_c54
  · exact w_c55
  · exact w_c56
  · exact w_c57
  · exact w_c58
set_option maxRecDepth 65536 in
theorem w_t1 : (words1.take 24).all (fun c => isCode c || c.before args0 about1) = true := by decide +kernel
set_option maxRecDepth 65536 in
theorem w_t2 : ((words1.drop 24).take 24).all (fun c => isCode c || c.before args0 about1) = true := by decide +kernel
set_option maxRecDepth 65536 in
theorem w_t3 : (((words1.drop 24).drop 24).take 24).all (fun c => isCode c || c.before args0 about1) = true := by decide +kernel
set_option maxRecDepth 65536 in
theorem w_t4 : ((((words1.drop 24).drop 24).drop 24).take 24).all (fun c => isCode c || c.before args0 about1) = true := by decide +kernel
set_option maxRecDepth 65536 in
theorem w_t5 : (((((words1.drop 24).drop 24).drop 24).drop 24).take 24).all (fun c => isCode c || c.before args0 about1) = true := by decide +kernel
set_option maxRecDepth 65536 in
theorem w_t6 : ((((((words1.drop 24).drop 24).drop 24).drop 24).drop 24).take 24).all (fun c => isCode c || c.before args0 about1) = true := by decide +kernel
set_option maxRecDepth 65536 in
theorem w_t7 : (((((((words1.drop 24).drop 24).drop 24).drop 24).drop 24).drop 24).take 24).all (fun c => isCode c || c.before args0 about1) = true := by decide +kernel
set_option maxRecDepth 65536 in
theorem w_t8 : ((((((((words1.drop 24).drop 24).drop 24).drop 24).drop 24).drop 24).drop 24).take 24).all (fun c => isCode c || c.before args0 about1) = true := by decide +kernel
set_option maxRecDepth 65536 in
theorem w_t9 : (((((((((words1.drop 24).drop 24).drop 24).drop 24).drop 24).drop 24).drop 24).drop 24).take 24).all (fun c => isCode c || c.before args0 about1) = true := by decide +kernel
set_option maxRecDepth 65536 in
theorem w_t10 : ((((((((((words1.drop 24).drop 24).drop 24).drop 24).drop 24).drop 24).drop 24).drop 24).drop 24).take 24).all (fun c => isCode c || c.before args0 about1) = true := by decide +kernel
set_option maxRecDepth 65536 in
theorem w_t11 : (((((((((((words1.drop 24).drop 24).drop 24).drop 24).drop 24).drop 24).drop 24).drop 24).drop 24).drop 24).take 24).all (fun c => isCode c || c.before args0 about1) = true := by decide +kernel
set_option maxRecDepth 65536 in
theorem w_t12 : ((((((((((((words1.drop 24).drop 24).drop 24).drop 24).drop 24).drop 24).drop 24).drop 24).drop 24).drop 24).drop 24).take 24).all (fun c => isCode c || c.before args0 about1) = true := by decide +kernel
set_option maxRecDepth 65536 in
theorem w_t13 : (((((((((((((words1.drop 24).drop 24).drop 24).drop 24).drop 24).drop 24).drop 24).drop 24).drop 24).drop 24).drop 24).drop 24).take 24).all (fun c => isCode c || c.before args0 about1) = true := by decide +kernel
set_option maxRecDepth 65536 in
theorem w_t14 : ((((((((((((((words1.drop 24).drop 24).drop 24).drop 24).drop 24).drop 24).drop 24).drop 24).drop 24).drop 24).drop 24).drop 24).drop 24).take 24).all (fun c => isCode c || c.before args0 about1) = true := by decide +kernel
set_option maxRecDepth 65536 in
theorem w_t15 : (((((((((((((((words1.drop 24).drop 24).drop 24).drop 24).drop 24).drop 24).drop 24).drop 24).drop 24).drop 24).drop 24).drop 24).drop 24).drop 24).take 24).all (fun c => isCode c || c.before args0 about1) = true := by decide +kernel
set_option maxRecDepth 65536 in
theorem w_t16 : ((((((((((((((((words1.drop 24).drop 24).drop 24).drop 24).drop 24).drop 24).drop 24).drop 24).drop 24).drop 24).drop 24).drop 24).drop 24).drop 24).drop 24).take 24).all (fun c => isCode c || c.before args0 about1) = true := by decide +kernel
set_option maxRecDepth 65536 in
theorem w_t17 : (((((((((((((((((words1.drop 24).drop 24).drop 24).drop 24).drop 24).drop 24).drop 24).drop 24).drop 24).drop 24).drop 24).drop 24).drop 24).drop 24).drop 24).drop 24).take 24).all (fun c => isCode c || c.before args0 about1) = true := by decide +kernel
set_option maxRecDepth 65536 in
theorem w_t18 : (((((((((((((((((words1.drop 24).drop 24).drop 24).drop 24).drop 24).drop 24).drop 24).drop 24).drop 24).drop 24).drop 24).drop 24).drop 24).drop 24).drop 24).drop 24).drop 24).all (fun c => isCode c || c.before args0 about1) = true := by decide +kernel
theorem w_tables : (allAtoms (Jvm.Cond.code x code maxLocals ret :: tables_1)).before args0 about1 = true := by
  rw [allAtoms_all]
  show words1.all (fun c => c.before args0 about1) = true
  refine all_split ?_ w_codes
  rw [← List.take_append_drop 24 words1, List.all_append, w_t1, ← List.take_append_drop 24 (words1.drop 24), List.all_append, w_t2, ← List.take_append_drop 24 ((words1.drop 24).drop 24), List.all_append, w_t3, ← List.take_append_drop 24 (((words1.drop 24).drop 24).drop 24), List.all_append, w_t4, ← List.take_append_drop 24 ((((words1.drop 24).drop 24).drop 24).drop 24), List.all_append, w_t5, ← List.take_append_drop 24 (((((words1.drop 24).drop 24).drop 24).drop 24).drop 24), List.all_append, w_t6, ← List.take_append_drop 24 ((((((words1.drop 24).drop 24).drop 24).drop 24).drop 24).drop 24), List.all_append, w_t7, ← List.take_append_drop 24 (((((((words1.drop 24).drop 24).drop 24).drop 24).drop 24).drop 24).drop 24), List.all_append, w_t8, ← List.take_append_drop 24 ((((((((words1.drop 24).drop 24).drop 24).drop 24).drop 24).drop 24).drop 24).drop 24), List.all_append, w_t9, ← List.take_append_drop 24 (((((((((words1.drop 24).drop 24).drop 24).drop 24).drop 24).drop 24).drop 24).drop 24).drop 24), List.all_append, w_t10, ← List.take_append_drop 24 ((((((((((words1.drop 24).drop 24).drop 24).drop 24).drop 24).drop 24).drop 24).drop 24).drop 24).drop 24), List.all_append, w_t11, ← List.take_append_drop 24 (((((((((((words1.drop 24).drop 24).drop 24).drop 24).drop 24).drop 24).drop 24).drop 24).drop 24).drop 24).drop 24), List.all_append, w_t12, ← List.take_append_drop 24 ((((((((((((words1.drop 24).drop 24).drop 24).drop 24).drop 24).drop 24).drop 24).drop 24).drop 24).drop 24).drop 24).drop 24), List.all_append, w_t13, ← List.take_append_drop 24 (((((((((((((words1.drop 24).drop 24).drop 24).drop 24).drop 24).drop 24).drop 24).drop 24).drop 24).drop 24).drop 24).drop 24).drop 24), List.all_append, w_t14, ← List.take_append_drop 24 ((((((((((((((words1.drop 24).drop 24).drop 24).drop 24).drop 24).drop 24).drop 24).drop 24).drop 24).drop 24).drop 24).drop 24).drop 24).drop 24), List.all_append, w_t15, ← List.take_append_drop 24 (((((((((((((((words1.drop 24).drop 24).drop 24).drop 24).drop 24).drop 24).drop 24).drop 24).drop 24).drop 24).drop 24).drop 24).drop 24).drop 24).drop 24), List.all_append, w_t16, ← List.take_append_drop 24 ((((((((((((((((words1.drop 24).drop 24).drop 24).drop 24).drop 24).drop 24).drop 24).drop 24).drop 24).drop 24).drop 24).drop 24).drop 24).drop 24).drop 24).drop 24), List.all_append, w_t17, w_t18]
  rfl
set_option maxRecDepth 65536 in
theorem w_rest : rest_1_c.before args0 about1 = true := by decide +kernel
set_option maxRecDepth 65536 in
theorem w_case : (Jvm.Cond.and given_1 narrow_1).before args0 about1 = true := by decide +kernel
theorem w_applies : (headSpec (Jvm.Cond.code x code maxLocals ret :: tables_1) room_1).applies x e0.platform about1 = true :=
  (Spec.applies_iff w_frames).mpr ⟨w_running, w_runnable, w_alone, w_named, w_hears, w_ripe, w_room, w_tables⟩
theorem atStart : AtStart classFile x code maxLocals ret World_1 tables_1 room_1 Calls_1 rest_1 Pre_1 launch0 p0 e0 about1 theMethod args0 below0 :=
  ⟨lists_1, trivial, launch0.admits_env _ _ _, launch0.least_env, fairChoices_fair.cas, fairChoices_fair.clock, w_frames, w_args, w_heap, w_applies, trivial, w_rest, w_case⟩
end start1
theorem witness_1 : WitnessClaimed_1 := ⟨start1.p0, start1.e0, start1.about1, start1.theMethod, start1.args0, start1.below0, start1.atStart⟩
end Jvm.Pilot.@@N@@
