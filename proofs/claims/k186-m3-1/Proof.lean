import JvmDerived
import JvmDerived.Pilot.@@N@@Statement
import JvmDerived.Pilot.@@N@@Code
set_option linter.unusedVariables false
set_option linter.unusedSimpArgs false
namespace Jvm.Pilot.@@N@@
open Jvm Jvm.ClassFile Sem Op Lib Jvm.Free Jvm.Stand Jvm.LawKit Jvm.RoadKit Bundle Jvm.Pilot.@@N@@.Jvm.D
def own_Go (p : Program) (e : Env) (below : List Frame) (P : Outcome → State → Prop) (st : State) : Prop :=
  ∃ s₂ o, Steps p.tables e below st s₂ ∧ s₂.status = .running ∧ Ended s₂ below o ∧ P o s₂
def own_Fin (s : State) (C S : Nat) (Q : Option Value → Heap → List Loc → Prop) (o : Outcome) (U : State) : Prop := ∃ v L, o = .returned v ∧ Q v U.heap L ∧ FrameEnd s o U L C S
def own_upd {α : Type} (f : Nat → α) (j : Nat) (v : α) : Nat → α := fun i => if i = j then v else f i
def own_Arf (Z : State) (h : Heap) (a : Addr) (k : ClassId) (ty : FieldType) (n : Int32) (f : Nat → Value) : Prop := ∃ c : Cell, Arr Z h a c ty ∧ c.cls = k ∧ c.slots.size = n.toNatClampNeg ∧ ¬ n < 0 ∧ (∀ i, i < c.slots.size → c.slots[i]? = some (f i)) ∧ ∀ i, i < c.slots.size → fits ty (f i) = true
section OwnKit
variable {p : Program} {l : Launch} {e : Env} {R : Room} {s : State} {m : MethodId} {args : Array Value} {below : List Frame} {meth : Method} {c : Code} {T : State} {locs : List Loc} {cells slots C S : Nat} {P : Outcome → State → Prop} {Q : Option Value → Heap → List Loc → Prop} {Z : State} {h h' : Heap} {a b : Addr} {k : ClassId} {ty : FieldType} {n : Int32} {ws : List Addr}
theorem own_by {st st' : State} (f : ∀ t, Steps p.tables e below st' t → Steps p.tables e below st t) (g : own_Go p e below P st') : own_Go p e below P st := by
  obtain ⟨s₂, o, h1, h2⟩ := g
  exact ⟨s₂, o, f _ h1, h2⟩
theorem own_mono (X : Stand p l e R s m args below meth c T locs cells slots) {c' s' : Nat} (hc : cells ≤ c') (hs : slots ≤ s') : Stand p l e R s m args below meth c T locs c' s' := { X with same := X.same.mono hc hs }
theorem own_end (X : Stand p l e R s m args below meth c T locs cells slots) {v : Option Value} (hv : meth.sig.returnType = none → v = none) (hlk : meth.locks = false) (eT : T.heap = h) (hQ : Q v h locs) (hc : cells ≤ C) (hs : slots ≤ S)
    {g : JFrame} (st : ∀ fs, (∀ (f : JFrame) (acts : List Action), f.method = m → f.locked = none → f.entered = [] → (doReturn e (T.setTop f) acts v).1 = T.setFrames fs) → Steps p.tables e below (T.setTop g) (T.setFrames fs)) : own_Go p e below (own_Fin s C S Q) (T.setTop g) := by
  obtain ⟨fs, hr, hrun, hended, hW, hsame⟩ := X.leave (v := v) hv hlk
  refine ⟨_, _, st fs hr, hrun, hended, v, locs, rfl, ?_, ⟨_, rfl⟩, hW, hsame.mono hc hs⟩
  show Q v T.heap locs
  rw [eT]; exact hQ
theorem own_retN (X : Stand p l e R s m args below meth c T locs cells slots) (hx : p.tables.exec = Jvm.exec) {pc : Nat} {Ls : Array Slot} {z : Int32} {t : FieldType} {rest : List Value} (hret : meth.sig.returnType = some t) (ht : t = .boolean ∨ t = .byte ∨ t = .char ∨ t = .short) (hd : decode c.code pc = .ok (.ireturn, 1)) (hlk : meth.locks = false) (eT : T.heap = h) (hQ : Q (some (.int (nar t z))) h locs) (hc : cells ≤ C) (hs : slots ≤ S) : own_Go p e below (own_Fin s C S Q) (T.setTop (mkF m pc Ls (.int z :: rest))) :=
  own_end X (fun h => by rw [hret] at h; cases h) hlk eT hQ hc hs fun fs hr => retN X hx hret ht hd hr
theorem own_retI (X : Stand p l e R s m args below meth c T locs cells slots) (hx : p.tables.exec = Jvm.exec) {pc : Nat} {Ls : Array Slot} {z : Int32} {rest : List Value} (hret : meth.sig.returnType = some .int) (hd : decode c.code pc = .ok (.ireturn, 1)) (hlk : meth.locks = false) (eT : T.heap = h) (hQ : Q (some (.int z)) h locs) (hc : cells ≤ C) (hs : slots ≤ S) : own_Go p e below (own_Fin s C S Q) (T.setTop (mkF m pc Ls (.int z :: rest))) :=
  own_end X (fun h => by rw [hret] at h; cases h) hlk eT hQ hc hs fun fs hr => retOut X hx hret rfl (Or.inl ⟨rfl, Or.inl rfl, _, rfl⟩) hd hr
theorem own_retJ (X : Stand p l e R s m args below meth c T locs cells slots) (hx : p.tables.exec = Jvm.exec) {pc : Nat} {Ls : Array Slot} {z : Int64} {rest : List Value} (hret : meth.sig.returnType = some .long) (hd : decode c.code pc = .ok (.lreturn, 1)) (hlk : meth.locks = false) (eT : T.heap = h) (hQ : Q (some (.long z)) h locs) (hc : cells ≤ C) (hs : slots ≤ S) : own_Go p e below (own_Fin s C S Q) (T.setTop (mkF m pc Ls (.long z :: rest))) :=
  own_end X (fun h => by rw [hret] at h; cases h) hlk eT hQ hc hs fun fs hr => retOut X hx hret rfl (Or.inr (Or.inl ⟨rfl, rfl, _, rfl⟩)) hd hr
theorem own_retD (X : Stand p l e R s m args below meth c T locs cells slots) (hx : p.tables.exec = Jvm.exec) {pc : Nat} {Ls : Array Slot} {z : UInt64} {rest : List Value} (hret : meth.sig.returnType = some .double) (hd : decode c.code pc = .ok (.dreturn, 1)) (hlk : meth.locks = false) (eT : T.heap = h) (hQ : Q (some (.double z)) h locs) (hc : cells ≤ C) (hs : slots ≤ S) : own_Go p e below (own_Fin s C S Q) (T.setTop (mkF m pc Ls (.double z :: rest))) :=
  own_end X (fun h => by rw [hret] at h; cases h) hlk eT hQ hc hs fun fs hr => retOut X hx hret rfl (Or.inr (Or.inr (Or.inl ⟨rfl, rfl, _, rfl⟩))) hd hr
theorem own_retR (X : Stand p l e R s m args below meth c T locs cells slots) (hx : p.tables.exec = Jvm.exec) {pc : Nat} {Ls : Array Slot} {w : Value} {t : FieldType} {rest : List Value} (hret : meth.sig.returnType = some t) (ht : t.isReference = true) (hw : w.isRef = true) (hd : decode c.code pc = .ok (.areturn, 1)) (hlk : meth.locks = false) (eT : T.heap = h) (hQ : Q (some w) h locs) (hc : cells ≤ C) (hs : slots ≤ S) : own_Go p e below (own_Fin s C S Q) (T.setTop (mkF m pc Ls (w :: rest))) :=
  own_end X (fun h => by rw [hret] at h; cases h) hlk eT hQ hc hs fun fs hr => retOut X hx hret (by cases t <;> first | rfl | (cases w <;> first | rfl | cases hw) | (cases ht)) (Or.inr (Or.inr (Or.inr (Or.inr ⟨rfl, ht, hw⟩)))) hd hr
theorem own_ret0 (X : Stand p l e R s m args below meth c T locs cells slots) (hx : p.tables.exec = Jvm.exec) {pc : Nat} {Ls : Array Slot} (hret : meth.sig.returnType = none) (hd : decode c.code pc = .ok (.return_, 1)) (hlk : meth.locks = false) (eT : T.heap = h) (hQ : Q none h locs) (hc : cells ≤ C) (hs : slots ≤ S) : own_Go p e below (own_Fin s C S Q) (T.setTop (mkF m pc Ls [])) :=
  own_end X (fun _ => rfl) hlk eT hQ hc hs fun fs hr => X.returnOut hx hret hd hr
theorem own_one {z : Int32} (q : z = 1) : (some (.int (nar .boolean z)) : Option Value) = some (.int 1) := by subst q; rfl
theorem own_lrem {g : JFrame} {target : State} (hh : At T m c below) (hx : p.tables.exec = Jvm.exec) (hg : g.method = m) {x y : Int64} {rest : List Value} (hd : decode c.code g.pc = .ok (.lrem, 1)) (hs : g.stack = .long y :: .long x :: rest) (hy : y ≠ 0)
    (hr : Steps p.tables e below (T.setTop { g with pc := g.pc + 1, stack := .long (x % y) :: rest }) target) : Steps p.tables e below (T.setTop g) target :=
  XS.lrem hh hx hg hd hs hy (by rw [lrem_mod]; exact hr)
theorem own_Arf.lt {f : Nat → Value} (F : own_Arf Z h a k ty n f) : a < h.size := by obtain ⟨c, A, -⟩ := F; exact A.lt
theorem own_Arf.ext {f : Nat → Value} (F : own_Arf Z h a k ty n f) (E : Ext h h') : own_Arf Z h' a k ty n f := by obtain ⟨c, A, r⟩ := F; exact ⟨c, A.ext E, r⟩
theorem own_Arf.other {f : Nat → Value} {sl : Nat} {v : Value} (F : own_Arf Z h b k ty n f) (W : Wr h h' a sl v) (q : b ≠ a) : own_Arf Z h' b k ty n f := by obtain ⟨c, A, r⟩ := F; exact ⟨c, A.other W q, r⟩
theorem own_Arf.keep {f : Nat → Value} (F : own_Arf Z h a k ty n f) (K : Keep h h' ws) (q : a ∉ ws) : own_Arf Z h' a k ty n f := by obtain ⟨c, A, r⟩ := F; exact ⟨c, ⟨K.2.1 a c A.1 q, A.2⟩, r⟩
theorem own_arfNew (A : Arr Z h a (newA k ty n) ty) (q : ¬ n < 0) : own_Arf Z h a k ty n (fun _ => defaultValue ty) := ⟨_, A, rfl, sz_new _ _ _, q, fun i hi => by
  rw [sz_new] at hi; simp [newA, hi], fun i _ => by cases ty <;> rfl⟩
theorem own_arfSet {cl : Cell} {f : Nat → Value} {j : Nat} {v : Value} (A : Arr Z h a cl ty) (q1 : cl.cls = k) (S : cl.slots.size = n.toNatClampNeg) (q3 : ¬ n < 0) (H : ∀ i, i < cl.slots.size → cl.slots[i]? = some (f i)) (G : ∀ i, i < cl.slots.size → fits ty (f i) = true) (hv : fits ty v = true) (W : Wr h h' a j v) : own_Arf Z h' a k ty n (own_upd f j v) := by
  refine ⟨_, A.same W, q1, by rw [sz_set]; exact S, q3, fun i hi => ?_, fun i hi => ?_⟩
  · rw [sz_set] at hi
    by_cases u : j = i
    · subst u; simp [Cell.setSlot, hi, own_upd]
    · have := H i hi; simp only [Cell.setSlot] at this ⊢
      rw [Array.getElem?_setIfInBounds_ne u, this]; simp [own_upd, Ne.symm u]
  · rw [sz_set] at hi
    by_cases u : j = i
    · subst u; simpa [own_upd] using hv
    · have := G i hi; simpa [own_upd, Ne.symm u] using this
theorem own_arfSetI {cl : Cell} {f : Nat → Int32} {j : Nat} {v : Int32} (A : Arr Z h a cl ty) (q1 : cl.cls = k) (S : cl.slots.size = n.toNatClampNeg) (q3 : ¬ n < 0) (H : ∀ i, i < cl.slots.size → cl.slots[i]? = some (.int (f i))) (G : ∀ i, i < cl.slots.size → fits ty (.int (f i)) = true) (hv : fits ty (.int v) = true) (W : Wr h h' a j (.int v)) : own_Arf Z h' a k ty n (fun i => .int (own_upd f j v i)) := by
  have q := own_arfSet (f := fun i => .int (f i)) A q1 S q3 H G hv W
  have e : (own_upd (fun i => Value.int (f i)) j (.int v)) = (fun i => .int (own_upd f j v i)) := by funext i; simp only [own_upd]; split <;> rfl
  rw [← e]; exact q
theorem own_arfSetJ {cl : Cell} {f : Nat → Int64} {j : Nat} {v : Int64} (A : Arr Z h a cl ty) (q1 : cl.cls = k) (S : cl.slots.size = n.toNatClampNeg) (q3 : ¬ n < 0) (H : ∀ i, i < cl.slots.size → cl.slots[i]? = some (.long (f i))) (G : ∀ i, i < cl.slots.size → fits ty (.long (f i)) = true) (hv : fits ty (.long v) = true) (W : Wr h h' a j (.long v)) : own_Arf Z h' a k ty n (fun i => .long (own_upd f j v i)) := by
  have q := own_arfSet (f := fun i => .long (f i)) A q1 S q3 H G hv W
  have e : (own_upd (fun i => Value.long (f i)) j (.long v)) = (fun i => .long (own_upd f j v i)) := by funext i; simp only [own_upd]; split <;> rfl
  rw [← e]; exact q
theorem own_arfSetD {cl : Cell} {f : Nat → UInt64} {j : Nat} {v : UInt64} (A : Arr Z h a cl ty) (q1 : cl.cls = k) (S : cl.slots.size = n.toNatClampNeg) (q3 : ¬ n < 0) (H : ∀ i, i < cl.slots.size → cl.slots[i]? = some (.double (f i))) (G : ∀ i, i < cl.slots.size → fits ty (.double (f i)) = true) (hv : fits ty (.double v) = true) (W : Wr h h' a j (.double v)) : own_Arf Z h' a k ty n (fun i => .double (own_upd f j v i)) := by
  have q := own_arfSet (f := fun i => .double (f i)) A q1 S q3 H G hv W
  have e : (own_upd (fun i => Value.double (f i)) j (.double v)) = (fun i => .double (own_upd f j v i)) := by funext i; simp only [own_upd]; split <;> rfl
  rw [← e]; exact q
theorem own_neArr {A0 : Array Value} {C : String} {kk : Nat} {f : Nat → Value} (F : Exa Z h a C) (wi : (Cond.instantiable C kk).before A0 Z = true) (G : own_Arf Z h b k ty n f) : a ≠ b := by
  obtain ⟨c, A, -⟩ := G
  exact ne_arr F wi A
end OwnKit

theorem own_landNN (x : Int64) : ¬ ((x &&& (9223372036854775807 : Int64)) < (0 : Int64)) := by
  have h := (c_andSL x 9223372036854775807).2.2 (by decide)
  rw [Int64.lt_iff_toInt_lt]
  have e : (0 : Int64).toInt = 0 := rfl
  omega
theorem own_rem (x : Int32) (d : Int) (y : Int32) (hy : y.toInt = d) (h0 : 0 < d) : 0 ≤ ((x &&& 2147483647) % y).toInt ∧ ((x &&& 2147483647) % y).toInt < d := by
  have h1 := c_and x 2147483647 (by decide)
  have h2 := (c_irem (x &&& 2147483647) y d hy).1 h1.1
  rw [h2]; exact ⟨Int.emod_nonneg _ (by omega), Int.emod_lt_of_pos _ h0⟩
theorem d1_0 : decode prog_50_method_1_code 0 = .ok (.aload_n 0, 1) := by decide +kernel
theorem d1_1 : decode prog_50_method_1_code 1 = .ok (.invokespecial 1, 3) := by decide +kernel
theorem d1_4 : decode prog_50_method_1_code 4 = .ok (.aload_n 0, 1) := by decide +kernel
theorem d1_5 : decode prog_50_method_1_code 5 = .ok (.bipush 8, 2) := by decide +kernel
theorem d1_7 : decode prog_50_method_1_code 7 = .ok (.newarray .int, 2) := by decide +kernel
theorem d1_9 : decode prog_50_method_1_code 9 = .ok (.putfield 7, 3) := by decide +kernel
theorem d1_12 : decode prog_50_method_1_code 12 = .ok (.return_, 1) := by decide +kernel
theorem pn_1 : plainName "com/example/margay/margay/index/IntList" = true := by first | (simp [plainName, overriddenIn]; done) | decide +kernel
theorem ef_1 (m : MethodId) (a0 : Addr) : entryFrame m #[(.ref a0)] 1 = mkF m 0 #[.val (.ref a0)] [] := by first | (simp [entryFrame, mkF, argsToLocals, Value.category]; done) | rfl
def Q1 (Z : State) (a0 : Addr) (f_a0_values : Value) (f_a0_size : Int32) (h0 : Heap) (n0 : Nat) (v : Option Value) (h : Heap) (L : List Loc) : Prop := ∃ (b2 : Addr) (k2 : ClassId), v = none ∧ Fr n0 L ∧ Keep h0 h [a0] ∧ Exa Z h a0 "com/example/margay/margay/index/IntList" ∧ Fld Z h a0 "com/example/margay/margay/index/IntList" "values" "[I" (.ref b2) ∧ Fld Z h a0 "com/example/margay/margay/index/IntList" "size" "I" (.int f_a0_size) ∧ (n0 ≤ b2) ∧ (h0.size ≤ b2) ∧ own_Arf Z h b2 k2 .int (8 : Int32) (fun i => .int ((fun _ => (0 : Int32)) i))
set_option maxRecDepth 65536 in
set_option maxHeartbeats 40000000 in
theorem rm1 (l : Launch) (Z : State) (A0 : Array Value) (hw : ∀ d ∈ tables_1, d.before A0 Z = true) (ws : List Jvm.Cond) (a0 : Addr) (f_a0_values : Value) (f_a0_size : Int32) (h0 : Heap) (n0 : Nat) (Z0 : n0 ≤ h0.size) (P_E_a0 : Exa Z h0 a0 "com/example/margay/margay/index/IntList") (P_F_a0_values : Fld Z h0 a0 "com/example/margay/margay/index/IntList" "values" "[I" f_a0_values) (g_a0 : n0 ≤ a0) (P_F_a0_size : Fld Z h0 a0 "com/example/margay/margay/index/IntList" "size" "I" (.int f_a0_size)) :
    MetFree l (⟨"com/example/margay/margay/index/IntList", "<init>", "()V"⟩ : MethodName) (head1 (Jvm.Cond.code (⟨"com/example/margay/margay/index/IntList", "<init>", "()V"⟩ : MethodName) prog_50_method_1_code 1 none :: ws) ({ frames := 1, cells := 1, slots := 8, locals := 12 } : Room)) (fun a U => a = #[(.ref a0)] ∧ Z.Warmed39 U.vm ∧ U.heap = h0) (fun _ _ _ _ _ => True) (fun _ U o U' => ∃ v L, o = .returned v ∧ Q1 Z a0 f_a0_values f_a0_size h0 n0 v U'.heap L ∧ FrameEnd U o U' L 1 8) := by
  refine MetFree.of_bodySF (plainFor_of_name pn_1) hisR ?_
  intro p e s m args below meth c s₁ Bd hml0 hP hK
  obtain ⟨rfl, hZ, hh⟩ := hP
  have hx := Bd.exec
  have hby := Bd.bytes
  have hml : c.maxLocals = 1 := hml0
  have hlk : meth.locks = false := Bd.notSynchronized
  have hown : s.vm.findClass "com/example/margay/margay/index/IntList" = some m.cls := findClass_of_methodNamed Bd.named
  have hnm := (name_of_methodNamed Bd.named Bd.method).1
  have X0 : Stand p l e ({ frames := 1, cells := 1, slots := 8, locals := 12 } : Room) s m #[(.ref a0)] below meth c s₁ [] 0 0 := Stand.of_body Bd
  have e0 : s₁.heap = h0 := by rw [← hh, Bd.state]; rfl
  have N0 := Fr.nil n0
  show own_Go p e below (own_Fin s 1 8 (Q1 Z a0 f_a0_values f_a0_size h0 n0)) _
  refine own_by (fun t k => castTop (ef_1 m a0) k) ?_
  show own_Go p e below _ (s₁.setTop (mkF m 0 #[.val (.ref a0)] []))
  refine own_by (fun _ k => XS.aloadN X0.here hx rfl (hb hby d1_0) rfl rfl k) ?_
  show own_Go p e below _ (s₁.setTop (mkF m 1 #[.val (.ref a0)] [(.ref a0)]))
  obtain ⟨T1, X1, e1, st1⟩ := initO X0 hx hZ hown (hw _ (List.mem_of_getElem? (i := 7) rfl)) (hw _ (List.mem_of_getElem? (i := 8) rfl)) (hw _ (List.mem_of_getElem? (i := 9) rfl)) e0 (g := (mkF m 1 #[.val (.ref a0)] [(.ref a0)])) rfl (by rw [hml]; rfl) rfl (hb hby d1_1) (by decide) (W := 0) (by show 2 * 0 + _ ≤ _; exact Nat.le_of_eq rfl) (by decide)
  refine own_by st1 ?_
  show own_Go p e below _ (T1.setTop (mkF m 4 #[.val (.ref a0)] []))
  refine own_by (fun _ k => XS.aloadN X1.here hx rfl (hb hby d1_4) rfl rfl k) ?_
  show own_Go p e below _ (T1.setTop (mkF m 5 #[.val (.ref a0)] [(.ref a0)]))
  refine own_by (fun _ k => XS.bipush X1.here hx rfl (hb hby d1_5) k) ?_
  show own_Go p e below _ (T1.setTop (mkF m 7 #[.val (.ref a0)] [(.int (8 : Int32)), (.ref a0)]))
  obtain ⟨T2, h2, k2, X2, e2, E2, A2, st2⟩ := newP X1 hx hZ (hw _ (List.mem_of_getElem? (i := 10) rfl)) e1 (g := (mkF m 7 #[.val (.ref a0)] [(.int (8 : Int32)), (.ref a0)])) rfl (hb hby d1_7) rfl (by decide) (cap := 8) (by decide) (by decide) (by decide) (by decide)
  obtain ⟨b2, g2⟩ : ∃ z, z = h0.size := ⟨_, rfl⟩
  have ge_b2 : n0 ≤ b2 := Nat.le_trans Z0 (Nat.le_of_eq g2.symm)
  have sz_b2 : h0.size ≤ b2 := Nat.le_trans (Keep.refl h0 [a0]).1 (Nat.le_of_eq g2.symm)
  have K2 : Keep h0 h2 [a0] := (Keep.refl h0 [a0]).ext E2
  have Z2 : n0 ≤ h2.size := Nat.le_trans Z0 E2.1
  rw [← g2] at A2 st2
  have V2 : own_Arf Z h2 b2 k2 .int (8 : Int32) (fun i => .int ((fun _ => (0 : Int32)) i)) := own_arfNew A2 (by decide)
  refine own_by st2 ?_
  show own_Go p e below _ (T2.setTop (mkF m 9 #[.val (.ref a0)] [(.ref b2), (.ref a0)]))
  have F3 : Exa Z h2 a0 "com/example/margay/margay/index/IntList" := (P_E_a0.ext E2)
  have F4 : Fld Z h2 a0 "com/example/margay/margay/index/IntList" "values" "[I" f_a0_values := (P_F_a0_values.ext E2)
  obtain ⟨T5, h5, X5, e5, W5, st5⟩ := putF X2 hx hZ hown (host := "") (Or.inl (hw _ (List.mem_of_getElem? (i := 11) rfl))) Via.refl e2 F4 F3 (Or.inl (hw _ (List.mem_of_getElem? (i := 12) rfl))) (hw _ (List.mem_of_getElem? (i := 2) rfl)) (ty := (.array .int)) (by decide) rfl rfl (g := (mkF m 9 #[.val (.ref a0)] [(.ref b2), (.ref a0)])) rfl rfl (hb hby d1_9)
  have Fw5 : Fld Z h5 a0 "com/example/margay/margay/index/IntList" "values" "[I" (.ref b2) := F4.same W5
  have K5 : Keep h0 h5 [a0] := K2.wr W5 (Or.inl (List.mem_of_getElem? (i := 0) rfl))
  have Z5 : n0 ≤ h5.size := Nat.le_trans Z2 (Keep.of_wr W5).1
  have N5 := Fr.snoc X5 N0 g_a0
  refine own_by st5 ?_
  show own_Go p e below _ (T5.setTop (mkF m 12 #[.val (.ref a0)] []))
  have F6 : Exa Z h5 a0 "com/example/margay/margay/index/IntList" := (F3.wr W5)
  have F7 : Fld Z h5 a0 "com/example/margay/margay/index/IntList" "size" "I" (.int f_a0_size) := ((P_F_a0_size.ext E2).other W5 (Or.inr (slot_ne (Or.inl (hw _ (List.mem_of_getElem? (i := 19) rfl))) (Or.inl (hw _ (List.mem_of_getElem? (i := 12) rfl))) (by decide) (t := .int) (t' := (.array .int)) (by decide) (by decide))))
  have F8 : own_Arf Z h5 b2 k2 .int (8 : Int32) (fun i => .int ((fun _ => (0 : Int32)) i)) := (V2.other W5 (Ne.symm (Nat.ne_of_lt (Nat.lt_of_lt_of_le (P_E_a0).lt (Nat.le_of_eq g2.symm)))))
  exact own_ret0 X5 hx Bd.returns (hb hby d1_12) hlk e5 ⟨_, _, rfl, N5, K5, F6, Fw5, F7, ge_b2, sz_b2, F8⟩ (by decide) (by decide)
theorem d5_0 : decode prog_50_method_5_code 0 = .ok (.aload_n 0, 1) := by decide +kernel
theorem d5_1 : decode prog_50_method_5_code 1 = .ok (.getfield 13, 3) := by decide +kernel
theorem d5_4 : decode prog_50_method_5_code 4 = .ok (.ireturn, 1) := by decide +kernel
theorem pn_5 : plainName "com/example/margay/margay/index/IntList" = true := by first | (simp [plainName, overriddenIn]; done) | decide +kernel
theorem ef_5 (m : MethodId) (a0 : Addr) : entryFrame m #[(.ref a0)] 1 = mkF m 0 #[.val (.ref a0)] [] := by first | (simp [entryFrame, mkF, argsToLocals, Value.category]; done) | rfl
def Q5 (Z : State) (a0 : Addr) (f_a0_size : Int32) (h0 : Heap) (n0 : Nat) (v : Option Value) (h : Heap) (L : List Loc) : Prop := v = some (.int f_a0_size) ∧ Fr n0 L ∧ h = h0
set_option maxRecDepth 65536 in
set_option maxHeartbeats 40000000 in
theorem rm5 (l : Launch) (Z : State) (A0 : Array Value) (hw : ∀ d ∈ tables_1, d.before A0 Z = true) (ws : List Jvm.Cond) (a0 : Addr) (f_a0_size : Int32) (h0 : Heap) (n0 : Nat) (Z0 : n0 ≤ h0.size) (P_F_a0_size : Fld Z h0 a0 "com/example/margay/margay/index/IntList" "size" "I" (.int f_a0_size)) :
    MetFree l (⟨"com/example/margay/margay/index/IntList", "size", "()I"⟩ : MethodName) (head1 (Jvm.Cond.code (⟨"com/example/margay/margay/index/IntList", "size", "()I"⟩ : MethodName) prog_50_method_5_code 1 (some .int) :: ws) ({ frames := 0, cells := 0, slots := 0, locals := 0 } : Room)) (fun a U => a = #[(.ref a0)] ∧ Z.Warmed39 U.vm ∧ U.heap = h0) (fun _ _ _ _ _ => True) (fun _ U o U' => ∃ v L, o = .returned v ∧ Q5 Z a0 f_a0_size h0 n0 v U'.heap L ∧ FrameEnd U o U' L 0 0) := by
  refine MetFree.of_bodySF (plainFor_of_name pn_5) hisR ?_
  intro p e s m args below meth c s₁ Bd hml0 hP hK
  obtain ⟨rfl, hZ, hh⟩ := hP
  have hx := Bd.exec
  have hby := Bd.bytes
  have hml : c.maxLocals = 1 := hml0
  have hlk : meth.locks = false := Bd.notSynchronized
  have hown : s.vm.findClass "com/example/margay/margay/index/IntList" = some m.cls := findClass_of_methodNamed Bd.named
  have hnm := (name_of_methodNamed Bd.named Bd.method).1
  have X0 : Stand p l e ({ frames := 0, cells := 0, slots := 0, locals := 0 } : Room) s m #[(.ref a0)] below meth c s₁ [] 0 0 := Stand.of_body Bd
  have e0 : s₁.heap = h0 := by rw [← hh, Bd.state]; rfl
  have N0 := Fr.nil n0
  show own_Go p e below (own_Fin s 0 0 (Q5 Z a0 f_a0_size h0 n0)) _
  refine own_by (fun t k => castTop (ef_5 m a0) k) ?_
  show own_Go p e below _ (s₁.setTop (mkF m 0 #[.val (.ref a0)] []))
  refine own_by (fun _ k => XS.aloadN X0.here hx rfl (hb hby d5_0) rfl rfl k) ?_
  show own_Go p e below _ (s₁.setTop (mkF m 1 #[.val (.ref a0)] [(.ref a0)]))
  obtain ⟨T1, X1, e1, st1⟩ := getF X0 hx hZ hown (host := "") (Or.inl (hw _ (List.mem_of_getElem? (i := 18) rfl))) Via.refl e0 P_F_a0_size (g := (mkF m 1 #[.val (.ref a0)] [(.ref a0)])) rfl rfl (hb hby d5_1)
  refine own_by st1 ?_
  show own_Go p e below _ (T1.setTop (mkF m 4 #[.val (.ref a0)] [(.int f_a0_size)]))
  exact own_retI X1 hx Bd.returns (hb hby d5_4) hlk e1 ⟨rfl, N0, rfl⟩ (by decide) (by decide)
theorem d6_0 : decode prog_50_method_3_code 0 = .ok (.aload_n 0, 1) := by decide +kernel
theorem d6_1 : decode prog_50_method_3_code 1 = .ok (.getfield 7, 3) := by decide +kernel
theorem d6_4 : decode prog_50_method_3_code 4 = .ok (.iload_n 1, 1) := by decide +kernel
theorem d6_5 : decode prog_50_method_3_code 5 = .ok (.iaload, 1) := by decide +kernel
theorem d6_6 : decode prog_50_method_3_code 6 = .ok (.ireturn, 1) := by decide +kernel
theorem pn_6 : plainName "com/example/margay/margay/index/IntList" = true := by first | (simp [plainName, overriddenIn]; done) | decide +kernel
theorem ef_6 (m : MethodId) (a0 : Addr) (p1 : Int32) : entryFrame m #[(.ref a0), (.int p1)] 2 = mkF m 0 #[.val (.ref a0), .val (.int p1)] [] := by first | (simp [entryFrame, mkF, argsToLocals, Value.category]; done) | rfl
def Q6 (Z : State) (a0 : Addr) (p1 : Int32) (f_a0_values : Addr) (k_f_a0_values : ClassId) (n_f_a0_values : Int32) (fn_f_a0_values : Nat → Int32) (h0 : Heap) (n0 : Nat) (v : Option Value) (h : Heap) (L : List Loc) : Prop := v = some (.int (fn_f_a0_values (p1).toNatClampNeg)) ∧ Fr n0 L ∧ h = h0
set_option maxRecDepth 65536 in
set_option maxHeartbeats 40000000 in
theorem rm6 (l : Launch) (Z : State) (A0 : Array Value) (hw : ∀ d ∈ tables_1, d.before A0 Z = true) (ws : List Jvm.Cond) (a0 : Addr) (p1 : Int32) (f_a0_values : Addr) (k_f_a0_values : ClassId) (n_f_a0_values : Int32) (fn_f_a0_values : Nat → Int32) (h0 : Heap) (n0 : Nat) (Z0 : n0 ≤ h0.size) (P_F_a0_values : Fld Z h0 a0 "com/example/margay/margay/index/IntList" "values" "[I" (.ref f_a0_values)) (P_V_f_a0_values : own_Arf Z h0 f_a0_values k_f_a0_values .int n_f_a0_values (fun i => .int (fn_f_a0_values i))) (hi_5 : (¬ p1 < 0) ∧ p1 < n_f_a0_values) :
    MetFree l (⟨"com/example/margay/margay/index/IntList", "get", "(I)I"⟩ : MethodName) (head1 (Jvm.Cond.code (⟨"com/example/margay/margay/index/IntList", "get", "(I)I"⟩ : MethodName) prog_50_method_3_code 2 (some .int) :: ws) ({ frames := 0, cells := 0, slots := 0, locals := 0 } : Room)) (fun a U => a = #[(.ref a0), (.int p1)] ∧ Z.Warmed39 U.vm ∧ U.heap = h0) (fun _ _ _ _ _ => True) (fun _ U o U' => ∃ v L, o = .returned v ∧ Q6 Z a0 p1 f_a0_values k_f_a0_values n_f_a0_values fn_f_a0_values h0 n0 v U'.heap L ∧ FrameEnd U o U' L 0 0) := by
  refine MetFree.of_bodySF (plainFor_of_name pn_6) hisR ?_
  intro p e s m args below meth c s₁ Bd hml0 hP hK
  obtain ⟨rfl, hZ, hh⟩ := hP
  have hx := Bd.exec
  have hby := Bd.bytes
  have hml : c.maxLocals = 2 := hml0
  have hlk : meth.locks = false := Bd.notSynchronized
  have hown : s.vm.findClass "com/example/margay/margay/index/IntList" = some m.cls := findClass_of_methodNamed Bd.named
  have hnm := (name_of_methodNamed Bd.named Bd.method).1
  have X0 : Stand p l e ({ frames := 0, cells := 0, slots := 0, locals := 0 } : Room) s m #[(.ref a0), (.int p1)] below meth c s₁ [] 0 0 := Stand.of_body Bd
  have e0 : s₁.heap = h0 := by rw [← hh, Bd.state]; rfl
  have N0 := Fr.nil n0
  show own_Go p e below (own_Fin s 0 0 (Q6 Z a0 p1 f_a0_values k_f_a0_values n_f_a0_values fn_f_a0_values h0 n0)) _
  refine own_by (fun t k => castTop (ef_6 m a0 p1) k) ?_
  show own_Go p e below _ (s₁.setTop (mkF m 0 #[.val (.ref a0), .val (.int p1)] []))
  refine own_by (fun _ k => XS.aloadN X0.here hx rfl (hb hby d6_0) rfl rfl k) ?_
  show own_Go p e below _ (s₁.setTop (mkF m 1 #[.val (.ref a0), .val (.int p1)] [(.ref a0)]))
  obtain ⟨T1, X1, e1, st1⟩ := getF X0 hx hZ hown (host := "") (Or.inl (hw _ (List.mem_of_getElem? (i := 11) rfl))) Via.refl e0 P_F_a0_values (g := (mkF m 1 #[.val (.ref a0), .val (.int p1)] [(.ref a0)])) rfl rfl (hb hby d6_1)
  refine own_by st1 ?_
  show own_Go p e below _ (T1.setTop (mkF m 4 #[.val (.ref a0), .val (.int p1)] [(.ref f_a0_values)]))
  refine own_by (fun _ k => XS.iloadN X1.here hx rfl (hb hby d6_4) rfl k) ?_
  show own_Go p e below _ (T1.setTop (mkF m 5 #[.val (.ref a0), .val (.int p1)] [(.int p1), (.ref f_a0_values)]))
  obtain ⟨cl2, Ar2, q2, S2, M2, H2, G2⟩ := id P_V_f_a0_values
  have hin2 : ¬ (p1 < 0 ∨ cl2.slots.size ≤ (p1).toNatClampNeg) := inb_of S2 hi_5
  refine own_by (fun t k => X1.iaload hx (j := p1) (v := (.int (fn_f_a0_values (p1).toNatClampNeg))) (by rw [e1]; exact Ar2.1) (State.isArrayOf_alike hZ.alike Ar2.2.1) Ar2.2.2 hin2 (H2 _ (Nat.lt_of_not_le fun y => hin2 (Or.inr y))) (g := (mkF m 5 #[.val (.ref a0), .val (.int p1)] [(.int p1), (.ref f_a0_values)])) rfl rfl (hb hby d6_5) _ k) ?_
  show own_Go p e below _ (T1.setTop (mkF m 6 #[.val (.ref a0), .val (.int p1)] [(.int (fn_f_a0_values (p1).toNatClampNeg))]))
  exact own_retI X1 hx Bd.returns (hb hby d6_6) hlk e1 ⟨rfl, N0, rfl⟩ (by decide) (by decide)
theorem d7_0 : decode prog_50_method_6_code 0 = .ok (.aload_n 0, 1) := by decide +kernel
theorem d7_1 : decode prog_50_method_6_code 1 = .ok (.getfield 7, 3) := by decide +kernel
theorem d7_4 : decode prog_50_method_6_code 4 = .ok (.aload_n 0, 1) := by decide +kernel
theorem d7_5 : decode prog_50_method_6_code 5 = .ok (.getfield 13, 3) := by decide +kernel
theorem d7_8 : decode prog_50_method_6_code 8 = .ok (.iconst 1, 1) := by decide +kernel
theorem d7_9 : decode prog_50_method_6_code 9 = .ok (.isub, 1) := by decide +kernel
theorem d7_10 : decode prog_50_method_6_code 10 = .ok (.iaload, 1) := by decide +kernel
theorem d7_11 : decode prog_50_method_6_code 11 = .ok (.ireturn, 1) := by decide +kernel
theorem pn_7 : plainName "com/example/margay/margay/index/IntList" = true := by first | (simp [plainName, overriddenIn]; done) | decide +kernel
theorem ef_7 (m : MethodId) (a0 : Addr) : entryFrame m #[(.ref a0)] 1 = mkF m 0 #[.val (.ref a0)] [] := by first | (simp [entryFrame, mkF, argsToLocals, Value.category]; done) | rfl
def Q7 (Z : State) (a0 : Addr) (f_a0_values : Addr) (f_a0_size : Int32) (k_f_a0_values : ClassId) (n_f_a0_values : Int32) (fn_f_a0_values : Nat → Int32) (h0 : Heap) (n0 : Nat) (v : Option Value) (h : Heap) (L : List Loc) : Prop := v = some (.int (fn_f_a0_values ((f_a0_size - (1 : Int32))).toNatClampNeg)) ∧ Fr n0 L ∧ h = h0
set_option maxRecDepth 65536 in
set_option maxHeartbeats 40000000 in
theorem rm7 (l : Launch) (Z : State) (A0 : Array Value) (hw : ∀ d ∈ tables_1, d.before A0 Z = true) (ws : List Jvm.Cond) (a0 : Addr) (f_a0_values : Addr) (f_a0_size : Int32) (k_f_a0_values : ClassId) (n_f_a0_values : Int32) (fn_f_a0_values : Nat → Int32) (h0 : Heap) (n0 : Nat) (Z0 : n0 ≤ h0.size) (P_F_a0_values : Fld Z h0 a0 "com/example/margay/margay/index/IntList" "values" "[I" (.ref f_a0_values)) (P_F_a0_size : Fld Z h0 a0 "com/example/margay/margay/index/IntList" "size" "I" (.int f_a0_size)) (P_V_f_a0_values : own_Arf Z h0 f_a0_values k_f_a0_values .int n_f_a0_values (fun i => .int (fn_f_a0_values i))) (hi_10 : (¬ (f_a0_size - (1 : Int32)) < 0) ∧ (f_a0_size - (1 : Int32)) < n_f_a0_values) :
    MetFree l (⟨"com/example/margay/margay/index/IntList", "last", "()I"⟩ : MethodName) (head1 (Jvm.Cond.code (⟨"com/example/margay/margay/index/IntList", "last", "()I"⟩ : MethodName) prog_50_method_6_code 1 (some .int) :: ws) ({ frames := 0, cells := 0, slots := 0, locals := 0 } : Room)) (fun a U => a = #[(.ref a0)] ∧ Z.Warmed39 U.vm ∧ U.heap = h0) (fun _ _ _ _ _ => True) (fun _ U o U' => ∃ v L, o = .returned v ∧ Q7 Z a0 f_a0_values f_a0_size k_f_a0_values n_f_a0_values fn_f_a0_values h0 n0 v U'.heap L ∧ FrameEnd U o U' L 0 0) := by
  refine MetFree.of_bodySF (plainFor_of_name pn_7) hisR ?_
  intro p e s m args below meth c s₁ Bd hml0 hP hK
  obtain ⟨rfl, hZ, hh⟩ := hP
  have hx := Bd.exec
  have hby := Bd.bytes
  have hml : c.maxLocals = 1 := hml0
  have hlk : meth.locks = false := Bd.notSynchronized
  have hown : s.vm.findClass "com/example/margay/margay/index/IntList" = some m.cls := findClass_of_methodNamed Bd.named
  have hnm := (name_of_methodNamed Bd.named Bd.method).1
  have X0 : Stand p l e ({ frames := 0, cells := 0, slots := 0, locals := 0 } : Room) s m #[(.ref a0)] below meth c s₁ [] 0 0 := Stand.of_body Bd
  have e0 : s₁.heap = h0 := by rw [← hh, Bd.state]; rfl
  have N0 := Fr.nil n0
  show own_Go p e below (own_Fin s 0 0 (Q7 Z a0 f_a0_values f_a0_size k_f_a0_values n_f_a0_values fn_f_a0_values h0 n0)) _
  refine own_by (fun t k => castTop (ef_7 m a0) k) ?_
  show own_Go p e below _ (s₁.setTop (mkF m 0 #[.val (.ref a0)] []))
  refine own_by (fun _ k => XS.aloadN X0.here hx rfl (hb hby d7_0) rfl rfl k) ?_
  show own_Go p e below _ (s₁.setTop (mkF m 1 #[.val (.ref a0)] [(.ref a0)]))
  obtain ⟨T1, X1, e1, st1⟩ := getF X0 hx hZ hown (host := "") (Or.inl (hw _ (List.mem_of_getElem? (i := 11) rfl))) Via.refl e0 P_F_a0_values (g := (mkF m 1 #[.val (.ref a0)] [(.ref a0)])) rfl rfl (hb hby d7_1)
  refine own_by st1 ?_
  show own_Go p e below _ (T1.setTop (mkF m 4 #[.val (.ref a0)] [(.ref f_a0_values)]))
  refine own_by (fun _ k => XS.aloadN X1.here hx rfl (hb hby d7_4) rfl rfl k) ?_
  show own_Go p e below _ (T1.setTop (mkF m 5 #[.val (.ref a0)] [(.ref a0), (.ref f_a0_values)]))
  obtain ⟨T2, X2, e2, st2⟩ := getF X1 hx hZ hown (host := "") (Or.inl (hw _ (List.mem_of_getElem? (i := 18) rfl))) Via.refl e1 P_F_a0_size (g := (mkF m 5 #[.val (.ref a0)] [(.ref a0), (.ref f_a0_values)])) rfl rfl (hb hby d7_5)
  refine own_by st2 ?_
  show own_Go p e below _ (T2.setTop (mkF m 8 #[.val (.ref a0)] [(.int f_a0_size), (.ref f_a0_values)]))
  refine own_by (fun _ k => XS.iconst X2.here hx rfl (hb hby d7_8) k) ?_
  show own_Go p e below _ (T2.setTop (mkF m 9 #[.val (.ref a0)] [(.int (1 : Int32)), (.int f_a0_size), (.ref f_a0_values)]))
  refine own_by (fun _ k => XS.isub X2.here hx rfl (hb hby d7_9) rfl k) ?_
  show own_Go p e below _ (T2.setTop (mkF m 10 #[.val (.ref a0)] [(.int (f_a0_size - (1 : Int32))), (.ref f_a0_values)]))
  obtain ⟨cl3, Ar3, q3, S3, M3, H3, G3⟩ := id P_V_f_a0_values
  have hin3 : ¬ ((f_a0_size - (1 : Int32)) < 0 ∨ cl3.slots.size ≤ ((f_a0_size - (1 : Int32))).toNatClampNeg) := inb_of S3 hi_10
  refine own_by (fun t k => X2.iaload hx (j := (f_a0_size - (1 : Int32))) (v := (.int (fn_f_a0_values ((f_a0_size - (1 : Int32))).toNatClampNeg))) (by rw [e2]; exact Ar3.1) (State.isArrayOf_alike hZ.alike Ar3.2.1) Ar3.2.2 hin3 (H3 _ (Nat.lt_of_not_le fun y => hin3 (Or.inr y))) (g := (mkF m 10 #[.val (.ref a0)] [(.int (f_a0_size - (1 : Int32))), (.ref f_a0_values)])) rfl rfl (hb hby d7_10) _ k) ?_
  show own_Go p e below _ (T2.setTop (mkF m 11 #[.val (.ref a0)] [(.int (fn_f_a0_values ((f_a0_size - (1 : Int32))).toNatClampNeg))]))
  exact own_retI X2 hx Bd.returns (hb hby d7_11) hlk e2 ⟨rfl, N0, rfl⟩ (by decide) (by decide)
theorem d4_0 : decode prog_50_method_7_code 0 = .ok (.aload_n 0, 1) := by decide +kernel
theorem d4_1 : decode prog_50_method_7_code 1 = .ok (.getfield 7, 3) := by decide +kernel
theorem d4_4 : decode prog_50_method_7_code 4 = .ok (.aload_n 0, 1) := by decide +kernel
theorem d4_5 : decode prog_50_method_7_code 5 = .ok (.dup, 1) := by decide +kernel
theorem d4_6 : decode prog_50_method_7_code 6 = .ok (.getfield 13, 3) := by decide +kernel
theorem d4_9 : decode prog_50_method_7_code 9 = .ok (.iconst 1, 1) := by decide +kernel
theorem d4_10 : decode prog_50_method_7_code 10 = .ok (.isub, 1) := by decide +kernel
theorem d4_11 : decode prog_50_method_7_code 11 = .ok (.dup_x1, 1) := by decide +kernel
theorem d4_12 : decode prog_50_method_7_code 12 = .ok (.putfield 13, 3) := by decide +kernel
theorem d4_15 : decode prog_50_method_7_code 15 = .ok (.iaload, 1) := by decide +kernel
theorem d4_16 : decode prog_50_method_7_code 16 = .ok (.ireturn, 1) := by decide +kernel
theorem pn_4 : plainName "com/example/margay/margay/index/IntList" = true := by first | (simp [plainName, overriddenIn]; done) | decide +kernel
theorem ef_4 (m : MethodId) (a0 : Addr) : entryFrame m #[(.ref a0)] 1 = mkF m 0 #[.val (.ref a0)] [] := by first | (simp [entryFrame, mkF, argsToLocals, Value.category]; done) | rfl
def Q4 (Z : State) (a0 : Addr) (f_a0_values : Addr) (f_a0_size : Int32) (k_f_a0_values : ClassId) (n_f_a0_values : Int32) (fn_f_a0_values : Nat → Int32) (h0 : Heap) (n0 : Nat) (v : Option Value) (h : Heap) (L : List Loc) : Prop := v = some (.int (fn_f_a0_values ((f_a0_size - (1 : Int32))).toNatClampNeg)) ∧ Fr n0 L ∧ Keep h0 h [a0] ∧ Fld Z h a0 "com/example/margay/margay/index/IntList" "values" "[I" (.ref f_a0_values) ∧ Fld Z h a0 "com/example/margay/margay/index/IntList" "size" "I" (.int (f_a0_size - (1 : Int32))) ∧ Exa Z h a0 "com/example/margay/margay/index/IntList"
set_option maxRecDepth 65536 in
set_option maxHeartbeats 40000000 in
theorem rm4 (l : Launch) (Z : State) (A0 : Array Value) (hw : ∀ d ∈ tables_1, d.before A0 Z = true) (ws : List Jvm.Cond) (a0 : Addr) (f_a0_values : Addr) (f_a0_size : Int32) (k_f_a0_values : ClassId) (n_f_a0_values : Int32) (fn_f_a0_values : Nat → Int32) (h0 : Heap) (n0 : Nat) (Z0 : n0 ≤ h0.size) (P_F_a0_values : Fld Z h0 a0 "com/example/margay/margay/index/IntList" "values" "[I" (.ref f_a0_values)) (P_F_a0_size : Fld Z h0 a0 "com/example/margay/margay/index/IntList" "size" "I" (.int f_a0_size)) (P_E_a0 : Exa Z h0 a0 "com/example/margay/margay/index/IntList") (g_a0 : n0 ≤ a0) (P_V_f_a0_values : own_Arf Z h0 f_a0_values k_f_a0_values .int n_f_a0_values (fun i => .int (fn_f_a0_values i))) (hi_15 : (¬ (f_a0_size - (1 : Int32)) < 0) ∧ (f_a0_size - (1 : Int32)) < n_f_a0_values) :
    MetFree l (⟨"com/example/margay/margay/index/IntList", "removeLast", "()I"⟩ : MethodName) (head1 (Jvm.Cond.code (⟨"com/example/margay/margay/index/IntList", "removeLast", "()I"⟩ : MethodName) prog_50_method_7_code 1 (some .int) :: ws) ({ frames := 0, cells := 0, slots := 0, locals := 0 } : Room)) (fun a U => a = #[(.ref a0)] ∧ Z.Warmed39 U.vm ∧ U.heap = h0) (fun _ _ _ _ _ => True) (fun _ U o U' => ∃ v L, o = .returned v ∧ Q4 Z a0 f_a0_values f_a0_size k_f_a0_values n_f_a0_values fn_f_a0_values h0 n0 v U'.heap L ∧ FrameEnd U o U' L 0 0) := by
  refine MetFree.of_bodySF (plainFor_of_name pn_4) hisR ?_
  intro p e s m args below meth c s₁ Bd hml0 hP hK
  obtain ⟨rfl, hZ, hh⟩ := hP
  have hx := Bd.exec
  have hby := Bd.bytes
  have hml : c.maxLocals = 1 := hml0
  have hlk : meth.locks = false := Bd.notSynchronized
  have hown : s.vm.findClass "com/example/margay/margay/index/IntList" = some m.cls := findClass_of_methodNamed Bd.named
  have hnm := (name_of_methodNamed Bd.named Bd.method).1
  have X0 : Stand p l e ({ frames := 0, cells := 0, slots := 0, locals := 0 } : Room) s m #[(.ref a0)] below meth c s₁ [] 0 0 := Stand.of_body Bd
  have e0 : s₁.heap = h0 := by rw [← hh, Bd.state]; rfl
  have N0 := Fr.nil n0
  show own_Go p e below (own_Fin s 0 0 (Q4 Z a0 f_a0_values f_a0_size k_f_a0_values n_f_a0_values fn_f_a0_values h0 n0)) _
  refine own_by (fun t k => castTop (ef_4 m a0) k) ?_
  show own_Go p e below _ (s₁.setTop (mkF m 0 #[.val (.ref a0)] []))
  refine own_by (fun _ k => XS.aloadN X0.here hx rfl (hb hby d4_0) rfl rfl k) ?_
  show own_Go p e below _ (s₁.setTop (mkF m 1 #[.val (.ref a0)] [(.ref a0)]))
  obtain ⟨T1, X1, e1, st1⟩ := getF X0 hx hZ hown (host := "") (Or.inl (hw _ (List.mem_of_getElem? (i := 11) rfl))) Via.refl e0 P_F_a0_values (g := (mkF m 1 #[.val (.ref a0)] [(.ref a0)])) rfl rfl (hb hby d4_1)
  refine own_by st1 ?_
  show own_Go p e below _ (T1.setTop (mkF m 4 #[.val (.ref a0)] [(.ref f_a0_values)]))
  refine own_by (fun _ k => XS.aloadN X1.here hx rfl (hb hby d4_4) rfl rfl k) ?_
  show own_Go p e below _ (T1.setTop (mkF m 5 #[.val (.ref a0)] [(.ref a0), (.ref f_a0_values)]))
  refine own_by (fun _ k => XS.dup X1.here hx rfl (hb hby d4_5) rfl rfl k) ?_
  show own_Go p e below _ (T1.setTop (mkF m 6 #[.val (.ref a0)] [(.ref a0), (.ref a0), (.ref f_a0_values)]))
  obtain ⟨T2, X2, e2, st2⟩ := getF X1 hx hZ hown (host := "") (Or.inl (hw _ (List.mem_of_getElem? (i := 18) rfl))) Via.refl e1 P_F_a0_size (g := (mkF m 6 #[.val (.ref a0)] [(.ref a0), (.ref a0), (.ref f_a0_values)])) rfl rfl (hb hby d4_6)
  refine own_by st2 ?_
  show own_Go p e below _ (T2.setTop (mkF m 9 #[.val (.ref a0)] [(.int f_a0_size), (.ref a0), (.ref f_a0_values)]))
  refine own_by (fun _ k => XS.iconst X2.here hx rfl (hb hby d4_9) k) ?_
  show own_Go p e below _ (T2.setTop (mkF m 10 #[.val (.ref a0)] [(.int (1 : Int32)), (.int f_a0_size), (.ref a0), (.ref f_a0_values)]))
  refine own_by (fun _ k => XS.isub X2.here hx rfl (hb hby d4_10) rfl k) ?_
  show own_Go p e below _ (T2.setTop (mkF m 11 #[.val (.ref a0)] [(.int (f_a0_size - (1 : Int32))), (.ref a0), (.ref f_a0_values)]))
  refine own_by (fun _ k => XS.dupX1 X2.here hx rfl (hb hby d4_11) rfl rfl rfl k) ?_
  show own_Go p e below _ (T2.setTop (mkF m 12 #[.val (.ref a0)] [(.int (f_a0_size - (1 : Int32))), (.ref a0), (.int (f_a0_size - (1 : Int32))), (.ref f_a0_values)]))
  obtain ⟨T3, h3, X3, e3, W3, st3⟩ := putF X2 hx hZ hown (host := "") (Or.inl (hw _ (List.mem_of_getElem? (i := 18) rfl))) Via.refl e2 P_F_a0_size P_E_a0 (Or.inl (hw _ (List.mem_of_getElem? (i := 19) rfl))) (hw _ (List.mem_of_getElem? (i := 2) rfl)) (ty := .int) (by decide) rfl rfl (g := (mkF m 12 #[.val (.ref a0)] [(.int (f_a0_size - (1 : Int32))), (.ref a0), (.int (f_a0_size - (1 : Int32))), (.ref f_a0_values)])) rfl rfl (hb hby d4_12)
  have Fw3 : Fld Z h3 a0 "com/example/margay/margay/index/IntList" "size" "I" (.int (f_a0_size - (1 : Int32))) := P_F_a0_size.same W3
  have K3 : Keep h0 h3 [a0] := (Keep.refl h0 [a0]).wr W3 (Or.inl (List.mem_of_getElem? (i := 0) rfl))
  have Z3 : n0 ≤ h3.size := Nat.le_trans Z0 (Keep.of_wr W3).1
  have N3 := Fr.snoc X3 N0 g_a0
  refine own_by st3 ?_
  show own_Go p e below _ (T3.setTop (mkF m 15 #[.val (.ref a0)] [(.int (f_a0_size - (1 : Int32))), (.ref f_a0_values)]))
  have F4 : own_Arf Z h3 f_a0_values k_f_a0_values .int n_f_a0_values (fun i => .int (fn_f_a0_values i)) := (P_V_f_a0_values.other W3 (Ne.symm (own_neArr P_E_a0 (hw _ (List.mem_of_getElem? (i := 2) rfl)) P_V_f_a0_values)))
  obtain ⟨cl5, Ar5, q5, S5, M5, H5, G5⟩ := id F4
  have hin5 : ¬ ((f_a0_size - (1 : Int32)) < 0 ∨ cl5.slots.size ≤ ((f_a0_size - (1 : Int32))).toNatClampNeg) := inb_of S5 hi_15
  refine own_by (fun t k => X3.iaload hx (j := (f_a0_size - (1 : Int32))) (v := (.int (fn_f_a0_values ((f_a0_size - (1 : Int32))).toNatClampNeg))) (by rw [e3]; exact Ar5.1) (State.isArrayOf_alike hZ.alike Ar5.2.1) Ar5.2.2 hin5 (H5 _ (Nat.lt_of_not_le fun y => hin5 (Or.inr y))) (g := (mkF m 15 #[.val (.ref a0)] [(.int (f_a0_size - (1 : Int32))), (.ref f_a0_values)])) rfl rfl (hb hby d4_15) _ k) ?_
  show own_Go p e below _ (T3.setTop (mkF m 16 #[.val (.ref a0)] [(.int (fn_f_a0_values ((f_a0_size - (1 : Int32))).toNatClampNeg))]))
  have F6 : Fld Z h3 a0 "com/example/margay/margay/index/IntList" "values" "[I" (.ref f_a0_values) := (P_F_a0_values.other W3 (Or.inr (slot_ne (Or.inl (hw _ (List.mem_of_getElem? (i := 12) rfl))) (Or.inl (hw _ (List.mem_of_getElem? (i := 19) rfl))) (by decide) (t := (.array .int)) (t' := .int) (by decide) (by decide))))
  have F7 : Exa Z h3 a0 "com/example/margay/margay/index/IntList" := (P_E_a0.wr W3)
  exact own_retI X3 hx Bd.returns (hb hby d4_16) hlk e3 ⟨rfl, N3, K3, F6, Fw3, F7⟩ (by decide) (by decide)
theorem d3_0 : decode prog_50_method_2_code 0 = .ok (.aload_n 0, 1) := by decide +kernel
theorem d3_1 : decode prog_50_method_2_code 1 = .ok (.getfield 13, 3) := by decide +kernel
theorem d3_4 : decode prog_50_method_2_code 4 = .ok (.aload_n 0, 1) := by decide +kernel
theorem d3_5 : decode prog_50_method_2_code 5 = .ok (.getfield 7, 3) := by decide +kernel
theorem d3_8 : decode prog_50_method_2_code 8 = .ok (.arraylength, 1) := by decide +kernel
theorem d3_9 : decode prog_50_method_2_code 9 = .ok (.if_icmp .ne 29, 3) := by decide +kernel
theorem d3_38 : decode prog_50_method_2_code 38 = .ok (.aload_n 0, 1) := by decide +kernel
theorem d3_39 : decode prog_50_method_2_code 39 = .ok (.getfield 7, 3) := by decide +kernel
theorem d3_42 : decode prog_50_method_2_code 42 = .ok (.aload_n 0, 1) := by decide +kernel
theorem d3_43 : decode prog_50_method_2_code 43 = .ok (.dup, 1) := by decide +kernel
theorem d3_44 : decode prog_50_method_2_code 44 = .ok (.getfield 13, 3) := by decide +kernel
theorem d3_47 : decode prog_50_method_2_code 47 = .ok (.dup_x1, 1) := by decide +kernel
theorem d3_48 : decode prog_50_method_2_code 48 = .ok (.iconst 1, 1) := by decide +kernel
theorem d3_49 : decode prog_50_method_2_code 49 = .ok (.iadd, 1) := by decide +kernel
theorem d3_50 : decode prog_50_method_2_code 50 = .ok (.putfield 13, 3) := by decide +kernel
theorem d3_53 : decode prog_50_method_2_code 53 = .ok (.iload_n 1, 1) := by decide +kernel
theorem d3_54 : decode prog_50_method_2_code 54 = .ok (.iastore, 1) := by decide +kernel
theorem d3_55 : decode prog_50_method_2_code 55 = .ok (.return_, 1) := by decide +kernel
theorem pn_3 : plainName "com/example/margay/margay/index/IntList" = true := by first | (simp [plainName, overriddenIn]; done) | decide +kernel
theorem ef_3 (m : MethodId) (a0 : Addr) (p1 : Int32) : entryFrame m #[(.ref a0), (.int p1)] 2 = mkF m 0 #[.val (.ref a0), .val (.int p1)] [] := by first | (simp [entryFrame, mkF, argsToLocals, Value.category]; done) | rfl
def Q3 (Z : State) (a0 : Addr) (p1 : Int32) (f_a0_size : Int32) (f_a0_values : Addr) (k_f_a0_values : ClassId) (n_f_a0_values : Int32) (fn_f_a0_values : Nat → Int32) (h0 : Heap) (n0 : Nat) (v : Option Value) (h : Heap) (L : List Loc) : Prop := v = none ∧ Fr n0 L ∧ Keep h0 h [a0, f_a0_values] ∧ Fld Z h a0 "com/example/margay/margay/index/IntList" "size" "I" (.int (f_a0_size + (1 : Int32))) ∧ Fld Z h a0 "com/example/margay/margay/index/IntList" "values" "[I" (.ref f_a0_values) ∧ Exa Z h a0 "com/example/margay/margay/index/IntList" ∧ own_Arf Z h f_a0_values k_f_a0_values .int n_f_a0_values (fun i => .int ((own_upd fn_f_a0_values (f_a0_size).toNatClampNeg p1) i))
set_option maxRecDepth 65536 in
set_option maxHeartbeats 40000000 in
theorem rm3 (l : Launch) (Z : State) (A0 : Array Value) (hw : ∀ d ∈ tables_1, d.before A0 Z = true) (ws : List Jvm.Cond) (a0 : Addr) (p1 : Int32) (f_a0_size : Int32) (f_a0_values : Addr) (k_f_a0_values : ClassId) (n_f_a0_values : Int32) (fn_f_a0_values : Nat → Int32) (h0 : Heap) (n0 : Nat) (Z0 : n0 ≤ h0.size) (P_F_a0_size : Fld Z h0 a0 "com/example/margay/margay/index/IntList" "size" "I" (.int f_a0_size)) (P_F_a0_values : Fld Z h0 a0 "com/example/margay/margay/index/IntList" "values" "[I" (.ref f_a0_values)) (P_V_f_a0_values : own_Arf Z h0 f_a0_values k_f_a0_values .int n_f_a0_values (fun i => .int (fn_f_a0_values i))) (ha9 : ¬ (f_a0_size = n_f_a0_values)) (P_E_a0 : Exa Z h0 a0 "com/example/margay/margay/index/IntList") (g_a0 : n0 ≤ a0) (hi_54 : (¬ f_a0_size < 0) ∧ f_a0_size < n_f_a0_values) (g_f_a0_values : n0 ≤ f_a0_values) :
    MetFree l (⟨"com/example/margay/margay/index/IntList", "add", "(I)V"⟩ : MethodName) (head1 (Jvm.Cond.code (⟨"com/example/margay/margay/index/IntList", "add", "(I)V"⟩ : MethodName) prog_50_method_2_code 2 none :: ws) ({ frames := 0, cells := 0, slots := 0, locals := 0 } : Room)) (fun a U => a = #[(.ref a0), (.int p1)] ∧ Z.Warmed39 U.vm ∧ U.heap = h0) (fun _ _ _ _ _ => True) (fun _ U o U' => ∃ v L, o = .returned v ∧ Q3 Z a0 p1 f_a0_size f_a0_values k_f_a0_values n_f_a0_values fn_f_a0_values h0 n0 v U'.heap L ∧ FrameEnd U o U' L 0 0) := by
  refine MetFree.of_bodySF (plainFor_of_name pn_3) hisR ?_
  intro p e s m args below meth c s₁ Bd hml0 hP hK
  obtain ⟨rfl, hZ, hh⟩ := hP
  have hx := Bd.exec
  have hby := Bd.bytes
  have hml : c.maxLocals = 2 := hml0
  have hlk : meth.locks = false := Bd.notSynchronized
  have hown : s.vm.findClass "com/example/margay/margay/index/IntList" = some m.cls := findClass_of_methodNamed Bd.named
  have hnm := (name_of_methodNamed Bd.named Bd.method).1
  have X0 : Stand p l e ({ frames := 0, cells := 0, slots := 0, locals := 0 } : Room) s m #[(.ref a0), (.int p1)] below meth c s₁ [] 0 0 := Stand.of_body Bd
  have e0 : s₁.heap = h0 := by rw [← hh, Bd.state]; rfl
  have N0 := Fr.nil n0
  show own_Go p e below (own_Fin s 0 0 (Q3 Z a0 p1 f_a0_size f_a0_values k_f_a0_values n_f_a0_values fn_f_a0_values h0 n0)) _
  refine own_by (fun t k => castTop (ef_3 m a0 p1) k) ?_
  show own_Go p e below _ (s₁.setTop (mkF m 0 #[.val (.ref a0), .val (.int p1)] []))
  refine own_by (fun _ k => XS.aloadN X0.here hx rfl (hb hby d3_0) rfl rfl k) ?_
  show own_Go p e below _ (s₁.setTop (mkF m 1 #[.val (.ref a0), .val (.int p1)] [(.ref a0)]))
  obtain ⟨T1, X1, e1, st1⟩ := getF X0 hx hZ hown (host := "") (Or.inl (hw _ (List.mem_of_getElem? (i := 18) rfl))) Via.refl e0 P_F_a0_size (g := (mkF m 1 #[.val (.ref a0), .val (.int p1)] [(.ref a0)])) rfl rfl (hb hby d3_1)
  refine own_by st1 ?_
  show own_Go p e below _ (T1.setTop (mkF m 4 #[.val (.ref a0), .val (.int p1)] [(.int f_a0_size)]))
  refine own_by (fun _ k => XS.aloadN X1.here hx rfl (hb hby d3_4) rfl rfl k) ?_
  show own_Go p e below _ (T1.setTop (mkF m 5 #[.val (.ref a0), .val (.int p1)] [(.ref a0), (.int f_a0_size)]))
  obtain ⟨T2, X2, e2, st2⟩ := getF X1 hx hZ hown (host := "") (Or.inl (hw _ (List.mem_of_getElem? (i := 11) rfl))) Via.refl e1 P_F_a0_values (g := (mkF m 5 #[.val (.ref a0), .val (.int p1)] [(.ref a0), (.int f_a0_size)])) rfl rfl (hb hby d3_5)
  refine own_by st2 ?_
  show own_Go p e below _ (T2.setTop (mkF m 8 #[.val (.ref a0), .val (.int p1)] [(.ref f_a0_values), (.int f_a0_size)]))
  obtain ⟨cl3, Ar3, q3, S3, M3, H3, G3⟩ := id P_V_f_a0_values
  refine own_by (fun t k => X2.arraylength hx (by rw [e2]; exact Ar3.1) (State.isArrayOf_alike hZ.alike Ar3.2.1) (g := (mkF m 8 #[.val (.ref a0), .val (.int p1)] [(.ref f_a0_values), (.int f_a0_size)])) rfl rfl (hb hby d3_8) _ k) ?_
  rw [len_of S3 M3]
  show own_Go p e below _ (T2.setTop (mkF m 9 #[.val (.ref a0), .val (.int p1)] [(.int n_f_a0_values), (.int f_a0_size)]))
  refine own_by (fun _ k => XS.icmpYes X2.here hx rfl (pc0 := 9) (pc' := 38) rfl (hb hby d3_9) rfl (feq ha9).2 (by decide) (by decide) k) ?_
  show own_Go p e below _ (T2.setTop (mkF m 38 #[.val (.ref a0), .val (.int p1)] []))
  refine own_by (fun _ k => XS.aloadN X2.here hx rfl (hb hby d3_38) rfl rfl k) ?_
  show own_Go p e below _ (T2.setTop (mkF m 39 #[.val (.ref a0), .val (.int p1)] [(.ref a0)]))
  obtain ⟨T4, X4, e4, st4⟩ := getF X2 hx hZ hown (host := "") (Or.inl (hw _ (List.mem_of_getElem? (i := 11) rfl))) Via.refl e2 P_F_a0_values (g := (mkF m 39 #[.val (.ref a0), .val (.int p1)] [(.ref a0)])) rfl rfl (hb hby d3_39)
  refine own_by st4 ?_
  show own_Go p e below _ (T4.setTop (mkF m 42 #[.val (.ref a0), .val (.int p1)] [(.ref f_a0_values)]))
  refine own_by (fun _ k => XS.aloadN X4.here hx rfl (hb hby d3_42) rfl rfl k) ?_
  show own_Go p e below _ (T4.setTop (mkF m 43 #[.val (.ref a0), .val (.int p1)] [(.ref a0), (.ref f_a0_values)]))
  refine own_by (fun _ k => XS.dup X4.here hx rfl (hb hby d3_43) rfl rfl k) ?_
  show own_Go p e below _ (T4.setTop (mkF m 44 #[.val (.ref a0), .val (.int p1)] [(.ref a0), (.ref a0), (.ref f_a0_values)]))
  obtain ⟨T5, X5, e5, st5⟩ := getF X4 hx hZ hown (host := "") (Or.inl (hw _ (List.mem_of_getElem? (i := 18) rfl))) Via.refl e4 P_F_a0_size (g := (mkF m 44 #[.val (.ref a0), .val (.int p1)] [(.ref a0), (.ref a0), (.ref f_a0_values)])) rfl rfl (hb hby d3_44)
  refine own_by st5 ?_
  show own_Go p e below _ (T5.setTop (mkF m 47 #[.val (.ref a0), .val (.int p1)] [(.int f_a0_size), (.ref a0), (.ref f_a0_values)]))
  refine own_by (fun _ k => XS.dupX1 X5.here hx rfl (hb hby d3_47) rfl rfl rfl k) ?_
  show own_Go p e below _ (T5.setTop (mkF m 48 #[.val (.ref a0), .val (.int p1)] [(.int f_a0_size), (.ref a0), (.int f_a0_size), (.ref f_a0_values)]))
  refine own_by (fun _ k => XS.iconst X5.here hx rfl (hb hby d3_48) k) ?_
  show own_Go p e below _ (T5.setTop (mkF m 49 #[.val (.ref a0), .val (.int p1)] [(.int (1 : Int32)), (.int f_a0_size), (.ref a0), (.int f_a0_size), (.ref f_a0_values)]))
  refine own_by (fun _ k => XS.iadd X5.here hx rfl (hb hby d3_49) rfl k) ?_
  show own_Go p e below _ (T5.setTop (mkF m 50 #[.val (.ref a0), .val (.int p1)] [(.int (f_a0_size + (1 : Int32))), (.ref a0), (.int f_a0_size), (.ref f_a0_values)]))
  obtain ⟨T6, h6, X6, e6, W6, st6⟩ := putF X5 hx hZ hown (host := "") (Or.inl (hw _ (List.mem_of_getElem? (i := 18) rfl))) Via.refl e5 P_F_a0_size P_E_a0 (Or.inl (hw _ (List.mem_of_getElem? (i := 19) rfl))) (hw _ (List.mem_of_getElem? (i := 2) rfl)) (ty := .int) (by decide) rfl rfl (g := (mkF m 50 #[.val (.ref a0), .val (.int p1)] [(.int (f_a0_size + (1 : Int32))), (.ref a0), (.int f_a0_size), (.ref f_a0_values)])) rfl rfl (hb hby d3_50)
  have Fw6 : Fld Z h6 a0 "com/example/margay/margay/index/IntList" "size" "I" (.int (f_a0_size + (1 : Int32))) := P_F_a0_size.same W6
  have K6 : Keep h0 h6 [a0, f_a0_values] := (Keep.refl h0 [a0, f_a0_values]).wr W6 (Or.inl (List.mem_of_getElem? (i := 0) rfl))
  have Z6 : n0 ≤ h6.size := Nat.le_trans Z0 (Keep.of_wr W6).1
  have N6 := Fr.snoc X6 N0 g_a0
  refine own_by st6 ?_
  show own_Go p e below _ (T6.setTop (mkF m 53 #[.val (.ref a0), .val (.int p1)] [(.int f_a0_size), (.ref f_a0_values)]))
  refine own_by (fun _ k => XS.iloadN X6.here hx rfl (hb hby d3_53) rfl k) ?_
  show own_Go p e below _ (T6.setTop (mkF m 54 #[.val (.ref a0), .val (.int p1)] [(.int p1), (.int f_a0_size), (.ref f_a0_values)]))
  have F7 : own_Arf Z h6 f_a0_values k_f_a0_values .int n_f_a0_values (fun i => .int (fn_f_a0_values i)) := (P_V_f_a0_values.other W6 (Ne.symm (own_neArr P_E_a0 (hw _ (List.mem_of_getElem? (i := 2) rfl)) P_V_f_a0_values)))
  obtain ⟨cl8, Ar8, q8, S8, M8, H8, G8⟩ := id F7
  have hin8 : ¬ (f_a0_size < 0 ∨ cl8.slots.size ≤ (f_a0_size).toNatClampNeg) := inb_of S8 hi_54
  obtain ⟨T9, h9, X9, e9, W9, st9⟩ := stI X6 hx hZ e6 Ar8 (j := f_a0_size) hin8 (g := (mkF m 54 #[.val (.ref a0), .val (.int p1)] [(.int p1), (.int f_a0_size), (.ref f_a0_values)])) rfl rfl (hb hby d3_54)
  have V9 : own_Arf Z h9 f_a0_values k_f_a0_values .int n_f_a0_values (fun i => .int ((own_upd fn_f_a0_values (f_a0_size).toNatClampNeg p1) i)) := own_arfSetI Ar8 q8 S8 M8 H8 G8 rfl W9
  have K9 : Keep h0 h9 [a0, f_a0_values] := K6.wr W9 (Or.inl (List.mem_of_getElem? (i := 1) rfl))
  have Z9 : n0 ≤ h9.size := Nat.le_trans Z6 (Keep.of_wr W9).1
  have N9 := Fr.snoc X9 N6 g_f_a0_values
  refine own_by st9 ?_
  show own_Go p e below _ (T9.setTop (mkF m 55 #[.val (.ref a0), .val (.int p1)] []))
  have F10 : Fld Z h9 a0 "com/example/margay/margay/index/IntList" "size" "I" (.int (f_a0_size + (1 : Int32))) := (Fw6.other W9 (Or.inl (own_neArr ((P_E_a0.wr W6).wr W9) (hw _ (List.mem_of_getElem? (i := 2) rfl)) V9)))
  have F11 : Fld Z h9 a0 "com/example/margay/margay/index/IntList" "values" "[I" (.ref f_a0_values) := ((P_F_a0_values.other W6 (Or.inr (slot_ne (Or.inl (hw _ (List.mem_of_getElem? (i := 12) rfl))) (Or.inl (hw _ (List.mem_of_getElem? (i := 19) rfl))) (by decide) (t := (.array .int)) (t' := .int) (by decide) (by decide)))).other W9 (Or.inl (own_neArr ((P_E_a0.wr W6).wr W9) (hw _ (List.mem_of_getElem? (i := 2) rfl)) V9)))
  have F12 : Exa Z h9 a0 "com/example/margay/margay/index/IntList" := ((P_E_a0.wr W6).wr W9)
  exact own_ret0 X9 hx Bd.returns (hb hby d3_55) hlk e9 ⟨rfl, N9, K9, F10, F11, F12, V9⟩ (by decide) (by decide)
theorem pd_4 : parseMethodDescriptor "()V" = some ⟨[], none⟩ := by decide +kernel
theorem pd_13 : parseMethodDescriptor "(I)V" = some ⟨[.int], none⟩ := by decide +kernel
theorem pd_20 : parseMethodDescriptor "()I" = some ⟨[], some .int⟩ := by decide +kernel
theorem pd_30 : parseMethodDescriptor "(I)I" = some ⟨[.int], some .int⟩ := by decide +kernel
theorem pn_0 : plainName "com/example/margay/margay/index/IntListRemoveLastPinLaw" = true := by first | (simp [plainName, overriddenIn]; done) | decide +kernel
theorem ef_0 (m : MethodId) (p0 : Int32) (p1 : Int32) (p2 : Int32) (p3 : Int32) (p4 : Int32) : entryFrame m #[(.int p0), (.int p1), (.int p2), (.int p3), (.int p4)] maxLocals = mkF m 0 #[.val (.int p0), .val (.int p1), .val (.int p2), .val (.int p3), .val (.int p4), .unset, .unset, .unset, .unset, .unset, .unset] [] := by first | (simp [entryFrame, mkF, argsToLocals, Value.category, maxLocals]; done) | rfl
theorem ob_0_1 (p4 : Int32) (v1 : Int32) (hv1 : ((1 : Int32) + ((p4 &&& (2147483647 : Int32)) % (3 : Int32))) = v1) : v1 = (1 : Int32) ∨ v1 = (2 : Int32) ∨ v1 = (3 : Int32) := by
  have h := own_rem p4 3 3 rfl (by decide)
  have h2 := c_iadd 1 ((p4 &&& (2147483647 : Int32)) % (3 : Int32))
  rw [hv1] at h2
  have h3 := rng32 v1
  generalize ((p4 &&& (2147483647 : Int32)) % (3 : Int32)) = w at *
  have e1 : (1 : Int32).toInt = 1 := rfl
  have e2 : (2 : Int32).toInt = 2 := rfl
  have e3 : (3 : Int32).toInt = 3 := rfl
  simp only [← Int32.toInt_inj, e1, e2, e3] at *
  omega
def Q0 (Z : State) (p0 : Int32) (p1 : Int32) (p2 : Int32) (p3 : Int32) (p4 : Int32) (h0 : Heap) (n0 : Nat) (v : Option Value) (h : Heap) (L : List Loc) : Prop := v = some (.int (1 : Int32)) ∧ Fr n0 L
set_option maxRecDepth 65536 in
set_option maxHeartbeats 40000000 in
theorem rm0 (l : Launch) (Z : State) (A0 : Array Value) (hw : ∀ d ∈ tables_1, d.before A0 Z = true) (ws : List Jvm.Cond) (p0 : Int32) (p1 : Int32) (p2 : Int32) (p3 : Int32) (p4 : Int32) (h0 : Heap) (n0 : Nat) (Z0 : n0 ≤ h0.size) :
    MetFree l x (head1 (Jvm.Cond.code x code maxLocals ret :: ws) room_1) (fun a U => a = #[(.int p0), (.int p1), (.int p2), (.int p3), (.int p4)] ∧ Z.Warmed39 U.vm ∧ U.heap = h0) (fun _ _ _ _ _ => True) (fun _ U o U' => ∃ v L, o = .returned v ∧ Q0 Z p0 p1 p2 p3 p4 h0 n0 v U'.heap L ∧ FrameEnd U o U' L 16 128) := by
  refine MetFree.of_bodySF (plainFor_of_name pn_0) hisR ?_
  intro p e s m args below meth c s₁ Bd hml0 hP hK
  obtain ⟨rfl, hZ, hh⟩ := hP
  have hx := Bd.exec
  have hby := Bd.bytes
  have hml : c.maxLocals = 11 := hml0
  have hlk : meth.locks = false := Bd.notSynchronized
  have hown : s.vm.findClass "com/example/margay/margay/index/IntListRemoveLastPinLaw" = some m.cls := findClass_of_methodNamed Bd.named
  have hnm := (name_of_methodNamed Bd.named Bd.method).1
  have X0 : Stand p l e room_1 s m #[(.int p0), (.int p1), (.int p2), (.int p3), (.int p4)] below meth c s₁ [] 0 0 := Stand.of_body Bd
  have e0 : s₁.heap = h0 := by rw [← hh, Bd.state]; rfl
  have N0 := Fr.nil n0
  show own_Go p e below (own_Fin s 16 128 (Q0 Z p0 p1 p2 p3 p4 h0 n0)) _
  refine own_by (fun t k => castTop (ef_0 m p0 p1 p2 p3 p4) k) ?_
  show own_Go p e below _ (s₁.setTop (mkF m 0 #[.val (.int p0), .val (.int p1), .val (.int p2), .val (.int p3), .val (.int p4), .unset, .unset, .unset, .unset, .unset, .unset] []))
  refine own_by (fun _ k => XS.iconst X0.here hx rfl (hb hby at_0) k) ?_
  show own_Go p e below _ (s₁.setTop (mkF m 1 #[.val (.int p0), .val (.int p1), .val (.int p2), .val (.int p3), .val (.int p4), .unset, .unset, .unset, .unset, .unset, .unset] [(.int (1 : Int32))]))
  refine own_by (fun _ k => XS.iload X0.here hx rfl (hb hby at_1) rfl k) ?_
  show own_Go p e below _ (s₁.setTop (mkF m 3 #[.val (.int p0), .val (.int p1), .val (.int p2), .val (.int p3), .val (.int p4), .unset, .unset, .unset, .unset, .unset, .unset] [(.int p4), (.int (1 : Int32))]))
  refine own_by (fun t k => X0.ldcInt hx hown (mvT hZ (hw _ (List.mem_of_getElem? (i := 0) rfl))) (g := (mkF m 3 #[.val (.int p0), .val (.int p1), .val (.int p2), .val (.int p3), .val (.int p4), .unset, .unset, .unset, .unset, .unset, .unset] [(.int p4), (.int (1 : Int32))])) rfl (hb hby at_3) _ k) ?_
  show own_Go p e below _ (s₁.setTop (mkF m 5 #[.val (.int p0), .val (.int p1), .val (.int p2), .val (.int p3), .val (.int p4), .unset, .unset, .unset, .unset, .unset, .unset] [(.int (2147483647 : Int32)), (.int p4), (.int (1 : Int32))]))
  refine own_by (fun _ k => XS.iand X0.here hx rfl (hb hby at_5) rfl k) ?_
  show own_Go p e below _ (s₁.setTop (mkF m 6 #[.val (.int p0), .val (.int p1), .val (.int p2), .val (.int p3), .val (.int p4), .unset, .unset, .unset, .unset, .unset, .unset] [(.int (p4 &&& (2147483647 : Int32))), (.int (1 : Int32))]))
  refine own_by (fun _ k => XS.iconst X0.here hx rfl (hb hby at_6) k) ?_
  show own_Go p e below _ (s₁.setTop (mkF m 7 #[.val (.int p0), .val (.int p1), .val (.int p2), .val (.int p3), .val (.int p4), .unset, .unset, .unset, .unset, .unset, .unset] [(.int (3 : Int32)), (.int (p4 &&& (2147483647 : Int32))), (.int (1 : Int32))]))
  refine own_by (fun _ k => iremM X0 hx rfl (hb hby at_7) rfl (by decide) k) ?_
  show own_Go p e below _ (s₁.setTop (mkF m 8 #[.val (.int p0), .val (.int p1), .val (.int p2), .val (.int p3), .val (.int p4), .unset, .unset, .unset, .unset, .unset, .unset] [(.int ((p4 &&& (2147483647 : Int32)) % (3 : Int32))), (.int (1 : Int32))]))
  refine own_by (fun _ k => XS.iadd X0.here hx rfl (hb hby at_8) rfl k) ?_
  show own_Go p e below _ (s₁.setTop (mkF m 9 #[.val (.int p0), .val (.int p1), .val (.int p2), .val (.int p3), .val (.int p4), .unset, .unset, .unset, .unset, .unset, .unset] [(.int ((1 : Int32) + ((p4 &&& (2147483647 : Int32)) % (3 : Int32))))]))
  refine own_by (fun _ k => XS.istore X0.here hx rfl (hb hby at_9) rfl (l' := #[.val (.int p0), .val (.int p1), .val (.int p2), .val (.int p3), .val (.int p4), .val (.int ((1 : Int32) + ((p4 &&& (2147483647 : Int32)) % (3 : Int32)))), .unset, .unset, .unset, .unset, .unset]) rfl k) ?_
  show own_Go p e below _ (s₁.setTop (mkF m 11 #[.val (.int p0), .val (.int p1), .val (.int p2), .val (.int p3), .val (.int p4), .val (.int ((1 : Int32) + ((p4 &&& (2147483647 : Int32)) % (3 : Int32)))), .unset, .unset, .unset, .unset, .unset] []))
  generalize hv1 : ((1 : Int32) + ((p4 &&& (2147483647 : Int32)) % (3 : Int32))) = v1
  show own_Go p e below _ (s₁.setTop (mkF m 11 #[.val (.int p0), .val (.int p1), .val (.int p2), .val (.int p3), .val (.int p4), .val (.int v1), .unset, .unset, .unset, .unset, .unset] []))
  have hs_v1 := (ob_0_1 p4 v1 hv1)
  rcases hs_v1 with rfl | rfl | rfl
  · skip
    show own_Go p e below _ (s₁.setTop (mkF m 11 #[.val (.int p0), .val (.int p1), .val (.int p2), .val (.int p3), .val (.int p4), .val (.int (1 : Int32)), .unset, .unset, .unset, .unset, .unset] []))
    obtain ⟨T2, h2, X2, e2, E2, A2, D2, -, st2⟩ := newO X0 hx hZ hown (hw _ (List.mem_of_getElem? (i := 1) rfl)) (hw _ (List.mem_of_getElem? (i := 2) rfl)) (hw _ (List.mem_of_getElem? (i := 3) rfl)) e0 (g := (mkF m 11 #[.val (.int p0), .val (.int p1), .val (.int p2), .val (.int p3), .val (.int p4), .val (.int (1 : Int32)), .unset, .unset, .unset, .unset, .unset] [])) rfl (hb hby at_11) (by decide) (by decide)
    obtain ⟨b2, g2⟩ : ∃ z, z = h0.size := ⟨_, rfl⟩
    have ge_b2 : n0 ≤ b2 := Nat.le_trans Z0 (Nat.le_of_eq g2.symm)
    have sz_b2 : h0.size ≤ b2 := Nat.le_trans (Keep.refl h0 []).1 (Nat.le_of_eq g2.symm)
    have K2 : Keep h0 h2 [] := (Keep.refl h0 []).ext E2
    have Z2 : n0 ≤ h2.size := Nat.le_trans Z0 E2.1
    rw [← g2] at A2 D2 st2
    have F_values_b2 : Fld Z h2 b2 "com/example/margay/margay/index/IntList" "values" "[I" .null := D2 (Or.inl (hw _ (List.mem_of_getElem? (i := 12) rfl))) (ty := (.array .int)) (by decide)
    have F_size_b2 : Fld Z h2 b2 "com/example/margay/margay/index/IntList" "size" "I" (.int (0 : Int32)) := D2 (Or.inl (hw _ (List.mem_of_getElem? (i := 19) rfl))) (ty := .int) (by decide)
    refine own_by st2 ?_
    show own_Go p e below _ (T2.setTop (mkF m 14 #[.val (.int p0), .val (.int p1), .val (.int p2), .val (.int p3), .val (.int p4), .val (.int (1 : Int32)), .unset, .unset, .unset, .unset, .unset] [(.ref b2)]))
    refine own_by (fun _ k => XS.dup X2.here hx rfl (hb hby at_14) rfl rfl k) ?_
    show own_Go p e below _ (T2.setTop (mkF m 15 #[.val (.int p0), .val (.int p1), .val (.int p2), .val (.int p3), .val (.int p4), .val (.int (1 : Int32)), .unset, .unset, .unset, .unset, .unset] [(.ref b2), (.ref b2)]))
    obtain ⟨_, _, ⟨T3, L3, k3, n3⟩, -, X3, ⟨Lc3, hQ3, l3, y3, z3⟩, st3⟩ := X2.specialBack hx (y := (⟨"com/example/margay/margay/index/IntList", "<init>", "()V"⟩ : MethodName)) rfl hown (mvT hZ (hw _ (List.mem_of_getElem? (i := 4) rfl))) (mvT hZ (hw _ (List.mem_of_getElem? (i := 5) rfl))) (mvT hZ (hw _ (List.mem_of_getElem? (i := 6) rfl))) (by decide) (backOf (W := 1) (rm1 l Z A0 hw [] b2 (.null) (0 : Int32) h2 n0 Z2 A2 F_values_b2 ge_b2 F_size_b2) hZ (hw _ (List.mem_of_getElem? (i := 6) rfl)) (hw _ (List.mem_of_getElem? (i := 3) rfl)) (by decide) (by decide)) (g := (mkF m 15 #[.val (.int p0), .val (.int p1), .val (.int p2), .val (.int p3), .val (.int p4), .val (.int (1 : Int32)), .unset, .unset, .unset, .unset, .unset] [(.ref b2), (.ref b2)])) rfl (by rw [hml]; rfl) (Steps.refl _) (a := b2) (argsL := []) (rest := [(.ref b2)]) (lenOf pd_4 rfl) rfl (by show 2 * 0 + _ ≤ _; exact Nat.le_of_eq rfl) (hb hby at_15) (fun _ _ => ⟨rfl, e2, (by decide : 1 + 1 ≤ _), (by decide : 2 + 8 ≤ _)⟩)
    dsimp only [Pt.U, Pt.locs, Pt.cells, Pt.slots] at X3 l3 y3 z3 st3 hQ3
    subst l3 y3 z3
    obtain ⟨b4, b5, rfl, Nq3, Kq3, F6, F7, F8, hp9, hp10, F11⟩ := hQ3
    have N3 := Fr.app N0 Nq3
    have K3 : Keep h0 T3.heap [] := K2.trans Kq3 ((allS (Or.inr sz_b2) all0))
    have Z3 : n0 ≤ T3.heap.size := Nat.le_trans Z2 Kq3.1
    have sz_b4 : h0.size ≤ b4 := Nat.le_trans K2.1 hp10
    refine own_by (fun _ k => st3.trans k) ?_
    show own_Go p e below _ (T3.setTop (mkF m 18 #[.val (.int p0), .val (.int p1), .val (.int p2), .val (.int p3), .val (.int p4), .val (.int (1 : Int32)), .unset, .unset, .unset, .unset, .unset] [(.ref b2)]))
    refine own_by (fun _ k => XS.astore X3.here hx rfl (hb hby at_18) rfl rfl (l' := #[.val (.int p0), .val (.int p1), .val (.int p2), .val (.int p3), .val (.int p4), .val (.int (1 : Int32)), .val (.ref b2), .unset, .unset, .unset, .unset]) rfl k) ?_
    show own_Go p e below _ (T3.setTop (mkF m 20 #[.val (.int p0), .val (.int p1), .val (.int p2), .val (.int p3), .val (.int p4), .val (.int (1 : Int32)), .val (.ref b2), .unset, .unset, .unset, .unset] []))
    refine own_by (fun _ k => XS.aload X3.here hx rfl (hb hby at_20) rfl rfl k) ?_
    show own_Go p e below _ (T3.setTop (mkF m 22 #[.val (.int p0), .val (.int p1), .val (.int p2), .val (.int p3), .val (.int p4), .val (.int (1 : Int32)), .val (.ref b2), .unset, .unset, .unset, .unset] [(.ref b2)]))
    refine own_by (fun _ k => XS.iloadN X3.here hx rfl (hb hby at_22) rfl k) ?_
    show own_Go p e below _ (T3.setTop (mkF m 23 #[.val (.int p0), .val (.int p1), .val (.int p2), .val (.int p3), .val (.int p4), .val (.int (1 : Int32)), .val (.ref b2), .unset, .unset, .unset, .unset] [(.int p0), (.ref b2)]))
    obtain ⟨cq12, kq12, q12a, q12b, q12c⟩ := isOf hZ rfl F6
    obtain ⟨_, _, ⟨T12, L12, k12, n12⟩, -, X12, ⟨Lc12, hQ12, l12, y12, z12⟩, st12⟩ := X3.virtualBack hx (y := (⟨"com/example/margay/margay/index/IntList", "add", "(I)V"⟩ : MethodName)) (z := (⟨"com/example/margay/margay/index/IntList", "add", "(I)V"⟩ : MethodName)) hown (mvT hZ (hw _ (List.mem_of_getElem? (i := 13) rfl))) (mvT hZ (hw _ (List.mem_of_getElem? (i := 14) rfl))) (notFace_of_selects (args := #[]) (mvT hZ (hw _ (List.mem_of_getElem? (i := 16) rfl)))) (mvT hZ (hw _ (List.mem_of_getElem? (i := 16) rfl))) (mvT hZ (hw _ (List.mem_of_getElem? (i := 15) rfl))) (by decide) (backOf (W := 0) (rm3 l Z A0 hw [] b2 p0 (0 : Int32) b4 b5 (8 : Int32) (fun _ => (0 : Int32)) T3.heap n0 Z3 F8 F7 F11 (by decide) F6 ge_b2 (by decide) hp9) hZ (hw _ (List.mem_of_getElem? (i := 17) rfl)) (hw _ (List.mem_of_getElem? (i := 3) rfl)) (by decide) (by decide)) q12a q12c (g := (mkF m 23 #[.val (.int p0), .val (.int p1), .val (.int p2), .val (.int p3), .val (.int p4), .val (.int (1 : Int32)), .val (.ref b2), .unset, .unset, .unset, .unset] [(.int p0), (.ref b2)])) rfl (by rw [hml]; rfl) (Steps.refl _) (argsL := [(.int p0)]) (rest := []) (lenOf pd_13 rfl) rfl (by show 2 * 0 + _ ≤ _; exact Nat.le_of_eq rfl) (hb hby at_23) (fun _ _ => ⟨rfl, rfl, (by decide : 2 + 0 ≤ _), (by decide : 10 + 0 ≤ _)⟩)
    dsimp only [Pt.U, Pt.locs, Pt.cells, Pt.slots] at X12 l12 y12 z12 st12 hQ12
    subst l12 y12 z12
    obtain ⟨rfl, Nq12, Kq12, F13, F14, F15, F16⟩ := hQ12
    have N12 := Fr.app N3 Nq12
    have K12 : Keep h0 T12.heap [] := K3.trans Kq12 ((allS (Or.inr sz_b2) (allS (Or.inr sz_b4) all0)))
    have Z12 : n0 ≤ T12.heap.size := Nat.le_trans Z3 Kq12.1
    refine own_by (fun _ k => st12.trans k) ?_
    show own_Go p e below _ (T12.setTop (mkF m 26 #[.val (.int p0), .val (.int p1), .val (.int p2), .val (.int p3), .val (.int p4), .val (.int (1 : Int32)), .val (.ref b2), .unset, .unset, .unset, .unset] []))
    refine own_by (fun _ k => XS.iload X12.here hx rfl (hb hby at_26) rfl k) ?_
    show own_Go p e below _ (T12.setTop (mkF m 28 #[.val (.int p0), .val (.int p1), .val (.int p2), .val (.int p3), .val (.int p4), .val (.int (1 : Int32)), .val (.ref b2), .unset, .unset, .unset, .unset] [(.int (1 : Int32))]))
    refine own_by (fun _ k => XS.iconst X12.here hx rfl (hb hby at_28) k) ?_
    show own_Go p e below _ (T12.setTop (mkF m 29 #[.val (.int p0), .val (.int p1), .val (.int p2), .val (.int p3), .val (.int p4), .val (.int (1 : Int32)), .val (.ref b2), .unset, .unset, .unset, .unset] [(.int (2 : Int32)), (.int (1 : Int32))]))
    refine own_by (fun _ k => XS.icmpYes X12.here hx rfl (pc0 := 29) (pc' := 38) rfl (hb hby at_29) rfl (tlt (by decide : (1 : Int32) < (2 : Int32))).1 (by decide) (by decide) k) ?_
    show own_Go p e below _ (T12.setTop (mkF m 38 #[.val (.int p0), .val (.int p1), .val (.int p2), .val (.int p3), .val (.int p4), .val (.int (1 : Int32)), .val (.ref b2), .unset, .unset, .unset, .unset] []))
    refine own_by (fun _ k => XS.iload X12.here hx rfl (hb hby at_38) rfl k) ?_
    show own_Go p e below _ (T12.setTop (mkF m 40 #[.val (.int p0), .val (.int p1), .val (.int p2), .val (.int p3), .val (.int p4), .val (.int (1 : Int32)), .val (.ref b2), .unset, .unset, .unset, .unset] [(.int (1 : Int32))]))
    refine own_by (fun _ k => XS.iconst X12.here hx rfl (hb hby at_40) k) ?_
    show own_Go p e below _ (T12.setTop (mkF m 41 #[.val (.int p0), .val (.int p1), .val (.int p2), .val (.int p3), .val (.int p4), .val (.int (1 : Int32)), .val (.ref b2), .unset, .unset, .unset, .unset] [(.int (3 : Int32)), (.int (1 : Int32))]))
    refine own_by (fun _ k => XS.icmpYes X12.here hx rfl (pc0 := 41) (pc' := 50) rfl (hb hby at_41) rfl (tlt (by decide : (1 : Int32) < (3 : Int32))).1 (by decide) (by decide) k) ?_
    show own_Go p e below _ (T12.setTop (mkF m 50 #[.val (.int p0), .val (.int p1), .val (.int p2), .val (.int p3), .val (.int p4), .val (.int (1 : Int32)), .val (.ref b2), .unset, .unset, .unset, .unset] []))
    refine own_by (fun _ k => XS.iload X12.here hx rfl (hb hby at_50) rfl k) ?_
    show own_Go p e below _ (T12.setTop (mkF m 52 #[.val (.int p0), .val (.int p1), .val (.int p2), .val (.int p3), .val (.int p4), .val (.int (1 : Int32)), .val (.ref b2), .unset, .unset, .unset, .unset] [(.int (1 : Int32))]))
    refine own_by (fun _ k => XS.iconst X12.here hx rfl (hb hby at_52) k) ?_
    show own_Go p e below _ (T12.setTop (mkF m 53 #[.val (.int p0), .val (.int p1), .val (.int p2), .val (.int p3), .val (.int p4), .val (.int (1 : Int32)), .val (.ref b2), .unset, .unset, .unset, .unset] [(.int (1 : Int32)), (.int (1 : Int32))]))
    refine own_by (fun _ k => XS.icmpNo X12.here hx rfl (hb hby at_53) rfl (teq (by decide : (1 : Int32) = (1 : Int32))).2 k) ?_
    show own_Go p e below _ (T12.setTop (mkF m 56 #[.val (.int p0), .val (.int p1), .val (.int p2), .val (.int p3), .val (.int p4), .val (.int (1 : Int32)), .val (.ref b2), .unset, .unset, .unset, .unset] []))
    refine own_by (fun _ k => XS.iloadN X12.here hx rfl (hb hby at_56) rfl k) ?_
    show own_Go p e below _ (T12.setTop (mkF m 57 #[.val (.int p0), .val (.int p1), .val (.int p2), .val (.int p3), .val (.int p4), .val (.int (1 : Int32)), .val (.ref b2), .unset, .unset, .unset, .unset] [(.int p0)]))
    refine own_by (fun _ k => XS.goto X12.here hx rfl (pc0 := 57) (pc' := 71) rfl (hb hby at_57) (by decide) (by decide) k) ?_
    show own_Go p e below _ (T12.setTop (mkF m 71 #[.val (.int p0), .val (.int p1), .val (.int p2), .val (.int p3), .val (.int p4), .val (.int (1 : Int32)), .val (.ref b2), .unset, .unset, .unset, .unset] [(.int p0)]))
    refine own_by (fun _ k => XS.istore X12.here hx rfl (hb hby at_71) rfl (l' := #[.val (.int p0), .val (.int p1), .val (.int p2), .val (.int p3), .val (.int p4), .val (.int (1 : Int32)), .val (.ref b2), .val (.int p0), .unset, .unset, .unset]) rfl k) ?_
    show own_Go p e below _ (T12.setTop (mkF m 73 #[.val (.int p0), .val (.int p1), .val (.int p2), .val (.int p3), .val (.int p4), .val (.int (1 : Int32)), .val (.ref b2), .val (.int p0), .unset, .unset, .unset] []))
    refine own_by (fun _ k => XS.aload X12.here hx rfl (hb hby at_73) rfl rfl k) ?_
    show own_Go p e below _ (T12.setTop (mkF m 75 #[.val (.int p0), .val (.int p1), .val (.int p2), .val (.int p3), .val (.int p4), .val (.int (1 : Int32)), .val (.ref b2), .val (.int p0), .unset, .unset, .unset] [(.ref b2)]))
    obtain ⟨cq17, kq17, q17a, q17b, q17c⟩ := isOf hZ rfl F15
    obtain ⟨_, _, ⟨T17, L17, k17, n17⟩, -, X17, ⟨Lc17, hQ17, l17, y17, z17⟩, st17⟩ := X12.virtualBack hx (y := (⟨"com/example/margay/margay/index/IntList", "removeLast", "()I"⟩ : MethodName)) (z := (⟨"com/example/margay/margay/index/IntList", "removeLast", "()I"⟩ : MethodName)) hown (mvT hZ (hw _ (List.mem_of_getElem? (i := 20) rfl))) (mvT hZ (hw _ (List.mem_of_getElem? (i := 21) rfl))) (notFace_of_selects (args := #[]) (mvT hZ (hw _ (List.mem_of_getElem? (i := 23) rfl)))) (mvT hZ (hw _ (List.mem_of_getElem? (i := 23) rfl))) (mvT hZ (hw _ (List.mem_of_getElem? (i := 22) rfl))) (by decide) (backOf (W := 0) (rm4 l Z A0 hw [] b2 b4 (1 : Int32) b5 (8 : Int32) (own_upd (fun _ => (0 : Int32)) 0 p0) T12.heap n0 Z12 F14 F13 F15 ge_b2 F16 (by decide)) hZ (hw _ (List.mem_of_getElem? (i := 24) rfl)) (hw _ (List.mem_of_getElem? (i := 3) rfl)) (by decide) (by decide)) q17a q17c (g := (mkF m 75 #[.val (.int p0), .val (.int p1), .val (.int p2), .val (.int p3), .val (.int p4), .val (.int (1 : Int32)), .val (.ref b2), .val (.int p0), .unset, .unset, .unset] [(.ref b2)])) rfl (by rw [hml]; rfl) (Steps.refl _) (argsL := []) (rest := []) (lenOf pd_20 rfl) rfl (by show 2 * 0 + _ ≤ _; exact Nat.le_of_eq rfl) (hb hby at_75) (fun _ _ => ⟨rfl, rfl, (by decide : 2 + 0 ≤ _), (by decide : 10 + 0 ≤ _)⟩)
    dsimp only [Pt.U, Pt.locs, Pt.cells, Pt.slots] at X17 l17 y17 z17 st17 hQ17
    subst l17 y17 z17
    obtain ⟨rfl, Nq17, Kq17, F18, F19, F20⟩ := hQ17
    have N17 := Fr.app N12 Nq17
    have K17 : Keep h0 T17.heap [] := K12.trans Kq17 ((allS (Or.inr sz_b2) all0))
    have Z17 : n0 ≤ T17.heap.size := Nat.le_trans Z12 Kq17.1
    refine own_by (fun _ k => st17.trans k) ?_
    show own_Go p e below _ (T17.setTop (mkF m 78 #[.val (.int p0), .val (.int p1), .val (.int p2), .val (.int p3), .val (.int p4), .val (.int (1 : Int32)), .val (.ref b2), .val (.int p0), .unset, .unset, .unset] [(.int p0)]))
    refine own_by (fun _ k => XS.istore X17.here hx rfl (hb hby at_78) rfl (l' := #[.val (.int p0), .val (.int p1), .val (.int p2), .val (.int p3), .val (.int p4), .val (.int (1 : Int32)), .val (.ref b2), .val (.int p0), .val (.int p0), .unset, .unset]) rfl k) ?_
    show own_Go p e below _ (T17.setTop (mkF m 80 #[.val (.int p0), .val (.int p1), .val (.int p2), .val (.int p3), .val (.int p4), .val (.int (1 : Int32)), .val (.ref b2), .val (.int p0), .val (.int p0), .unset, .unset] []))
    refine own_by (fun _ k => XS.iload X17.here hx rfl (hb hby at_80) rfl k) ?_
    show own_Go p e below _ (T17.setTop (mkF m 82 #[.val (.int p0), .val (.int p1), .val (.int p2), .val (.int p3), .val (.int p4), .val (.int (1 : Int32)), .val (.ref b2), .val (.int p0), .val (.int p0), .unset, .unset] [(.int p0)]))
    refine own_by (fun _ k => XS.iload X17.here hx rfl (hb hby at_82) rfl k) ?_
    show own_Go p e below _ (T17.setTop (mkF m 84 #[.val (.int p0), .val (.int p1), .val (.int p2), .val (.int p3), .val (.int p4), .val (.int (1 : Int32)), .val (.ref b2), .val (.int p0), .val (.int p0), .unset, .unset] [(.int p0), (.int p0)]))
    refine own_by (fun _ k => XS.icmpNo X17.here hx rfl (hb hby at_84) rfl (teq (rfl : p0 = p0)).2 k) ?_
    show own_Go p e below _ (T17.setTop (mkF m 87 #[.val (.int p0), .val (.int p1), .val (.int p2), .val (.int p3), .val (.int p4), .val (.int (1 : Int32)), .val (.ref b2), .val (.int p0), .val (.int p0), .unset, .unset] []))
    refine own_by (fun _ k => XS.iconst X17.here hx rfl (hb hby at_87) k) ?_
    show own_Go p e below _ (T17.setTop (mkF m 88 #[.val (.int p0), .val (.int p1), .val (.int p2), .val (.int p3), .val (.int p4), .val (.int (1 : Int32)), .val (.ref b2), .val (.int p0), .val (.int p0), .unset, .unset] [(.int (1 : Int32))]))
    refine own_by (fun _ k => XS.goto X17.here hx rfl (pc0 := 88) (pc' := 92) rfl (hb hby at_88) (by decide) (by decide) k) ?_
    show own_Go p e below _ (T17.setTop (mkF m 92 #[.val (.int p0), .val (.int p1), .val (.int p2), .val (.int p3), .val (.int p4), .val (.int (1 : Int32)), .val (.ref b2), .val (.int p0), .val (.int p0), .unset, .unset] [(.int (1 : Int32))]))
    refine own_by (fun _ k => XS.istore X17.here hx rfl (hb hby at_92) rfl (l' := #[.val (.int p0), .val (.int p1), .val (.int p2), .val (.int p3), .val (.int p4), .val (.int (1 : Int32)), .val (.ref b2), .val (.int p0), .val (.int p0), .val (.int (1 : Int32)), .unset]) rfl k) ?_
    show own_Go p e below _ (T17.setTop (mkF m 94 #[.val (.int p0), .val (.int p1), .val (.int p2), .val (.int p3), .val (.int p4), .val (.int (1 : Int32)), .val (.ref b2), .val (.int p0), .val (.int p0), .val (.int (1 : Int32)), .unset] []))
    refine own_by (fun _ k => XS.iload X17.here hx rfl (hb hby at_94) rfl k) ?_
    show own_Go p e below _ (T17.setTop (mkF m 96 #[.val (.int p0), .val (.int p1), .val (.int p2), .val (.int p3), .val (.int p4), .val (.int (1 : Int32)), .val (.ref b2), .val (.int p0), .val (.int p0), .val (.int (1 : Int32)), .unset] [(.int (1 : Int32))]))
    refine own_by (fun _ k => XS.ifNo X17.here hx rfl (hb hby at_96) rfl ((if0 _ _).trans (feq (by decide : ¬ ((1 : Int32) = (0 : Int32)))).1) k) ?_
    show own_Go p e below _ (T17.setTop (mkF m 99 #[.val (.int p0), .val (.int p1), .val (.int p2), .val (.int p3), .val (.int p4), .val (.int (1 : Int32)), .val (.ref b2), .val (.int p0), .val (.int p0), .val (.int (1 : Int32)), .unset] []))
    refine own_by (fun _ k => XS.aload X17.here hx rfl (hb hby at_99) rfl rfl k) ?_
    show own_Go p e below _ (T17.setTop (mkF m 101 #[.val (.int p0), .val (.int p1), .val (.int p2), .val (.int p3), .val (.int p4), .val (.int (1 : Int32)), .val (.ref b2), .val (.int p0), .val (.int p0), .val (.int (1 : Int32)), .unset] [(.ref b2)]))
    obtain ⟨cq21, kq21, q21a, q21b, q21c⟩ := isOf hZ rfl F20
    obtain ⟨_, _, ⟨T21, L21, k21, n21⟩, -, X21, ⟨Lc21, hQ21, l21, y21, z21⟩, st21⟩ := X17.virtualBack hx (y := (⟨"com/example/margay/margay/index/IntList", "size", "()I"⟩ : MethodName)) (z := (⟨"com/example/margay/margay/index/IntList", "size", "()I"⟩ : MethodName)) hown (mvT hZ (hw _ (List.mem_of_getElem? (i := 25) rfl))) (mvT hZ (hw _ (List.mem_of_getElem? (i := 26) rfl))) (notFace_of_selects (args := #[]) (mvT hZ (hw _ (List.mem_of_getElem? (i := 28) rfl)))) (mvT hZ (hw _ (List.mem_of_getElem? (i := 28) rfl))) (mvT hZ (hw _ (List.mem_of_getElem? (i := 27) rfl))) (by decide) (backOf (W := 0) (rm5 l Z A0 hw [] b2 (0 : Int32) T17.heap n0 Z17 F19) hZ (hw _ (List.mem_of_getElem? (i := 29) rfl)) (hw _ (List.mem_of_getElem? (i := 3) rfl)) (by decide) (by decide)) q21a q21c (g := (mkF m 101 #[.val (.int p0), .val (.int p1), .val (.int p2), .val (.int p3), .val (.int p4), .val (.int (1 : Int32)), .val (.ref b2), .val (.int p0), .val (.int p0), .val (.int (1 : Int32)), .unset] [(.ref b2)])) rfl (by rw [hml]; rfl) (Steps.refl _) (argsL := []) (rest := []) (lenOf pd_20 rfl) rfl (by show 2 * 0 + _ ≤ _; exact Nat.le_of_eq rfl) (hb hby at_101) (fun _ _ => ⟨rfl, rfl, (by decide : 2 + 0 ≤ _), (by decide : 10 + 0 ≤ _)⟩)
    dsimp only [Pt.U, Pt.locs, Pt.cells, Pt.slots] at X21 l21 y21 z21 st21 hQ21
    subst l21 y21 z21
    obtain ⟨rfl, Nq21, eq21⟩ := hQ21
    have N21 := Fr.app N17 Nq21
    refine own_by (fun _ k => st21.trans k) ?_
    show own_Go p e below _ (T21.setTop (mkF m 104 #[.val (.int p0), .val (.int p1), .val (.int p2), .val (.int p3), .val (.int p4), .val (.int (1 : Int32)), .val (.ref b2), .val (.int p0), .val (.int p0), .val (.int (1 : Int32)), .unset] [(.int (0 : Int32))]))
    refine own_by (fun _ k => XS.iload X21.here hx rfl (hb hby at_104) rfl k) ?_
    show own_Go p e below _ (T21.setTop (mkF m 106 #[.val (.int p0), .val (.int p1), .val (.int p2), .val (.int p3), .val (.int p4), .val (.int (1 : Int32)), .val (.ref b2), .val (.int p0), .val (.int p0), .val (.int (1 : Int32)), .unset] [(.int (1 : Int32)), (.int (0 : Int32))]))
    refine own_by (fun _ k => XS.iconst X21.here hx rfl (hb hby at_106) k) ?_
    show own_Go p e below _ (T21.setTop (mkF m 107 #[.val (.int p0), .val (.int p1), .val (.int p2), .val (.int p3), .val (.int p4), .val (.int (1 : Int32)), .val (.ref b2), .val (.int p0), .val (.int p0), .val (.int (1 : Int32)), .unset] [(.int (1 : Int32)), (.int (1 : Int32)), (.int (0 : Int32))]))
    refine own_by (fun _ k => XS.isub X21.here hx rfl (hb hby at_107) rfl k) ?_
    show own_Go p e below _ (T21.setTop (mkF m 108 #[.val (.int p0), .val (.int p1), .val (.int p2), .val (.int p3), .val (.int p4), .val (.int (1 : Int32)), .val (.ref b2), .val (.int p0), .val (.int p0), .val (.int (1 : Int32)), .unset] [(.int (0 : Int32)), (.int (0 : Int32))]))
    refine own_by (fun _ k => XS.icmpNo X21.here hx rfl (hb hby at_108) rfl (teq (by decide : (0 : Int32) = (0 : Int32))).2 k) ?_
    show own_Go p e below _ (T21.setTop (mkF m 111 #[.val (.int p0), .val (.int p1), .val (.int p2), .val (.int p3), .val (.int p4), .val (.int (1 : Int32)), .val (.ref b2), .val (.int p0), .val (.int p0), .val (.int (1 : Int32)), .unset] []))
    refine own_by (fun _ k => XS.iconst X21.here hx rfl (hb hby at_111) k) ?_
    show own_Go p e below _ (T21.setTop (mkF m 112 #[.val (.int p0), .val (.int p1), .val (.int p2), .val (.int p3), .val (.int p4), .val (.int (1 : Int32)), .val (.ref b2), .val (.int p0), .val (.int p0), .val (.int (1 : Int32)), .unset] [(.int (1 : Int32))]))
    refine own_by (fun _ k => XS.goto X21.here hx rfl (pc0 := 112) (pc' := 116) rfl (hb hby at_112) (by decide) (by decide) k) ?_
    show own_Go p e below _ (T21.setTop (mkF m 116 #[.val (.int p0), .val (.int p1), .val (.int p2), .val (.int p3), .val (.int p4), .val (.int (1 : Int32)), .val (.ref b2), .val (.int p0), .val (.int p0), .val (.int (1 : Int32)), .unset] [(.int (1 : Int32))]))
    refine own_by (fun _ k => XS.istore X21.here hx rfl (hb hby at_116) rfl (l' := #[.val (.int p0), .val (.int p1), .val (.int p2), .val (.int p3), .val (.int p4), .val (.int (1 : Int32)), .val (.ref b2), .val (.int p0), .val (.int p0), .val (.int (1 : Int32)), .unset]) rfl k) ?_
    show own_Go p e below _ (T21.setTop (mkF m 118 #[.val (.int p0), .val (.int p1), .val (.int p2), .val (.int p3), .val (.int p4), .val (.int (1 : Int32)), .val (.ref b2), .val (.int p0), .val (.int p0), .val (.int (1 : Int32)), .unset] []))
    refine own_by (fun _ k => XS.iload X21.here hx rfl (hb hby at_118) rfl k) ?_
    show own_Go p e below _ (T21.setTop (mkF m 120 #[.val (.int p0), .val (.int p1), .val (.int p2), .val (.int p3), .val (.int p4), .val (.int (1 : Int32)), .val (.ref b2), .val (.int p0), .val (.int p0), .val (.int (1 : Int32)), .unset] [(.int (1 : Int32))]))
    refine own_by (fun _ k => XS.iconst X21.here hx rfl (hb hby at_120) k) ?_
    show own_Go p e below _ (T21.setTop (mkF m 121 #[.val (.int p0), .val (.int p1), .val (.int p2), .val (.int p3), .val (.int p4), .val (.int (1 : Int32)), .val (.ref b2), .val (.int p0), .val (.int p0), .val (.int (1 : Int32)), .unset] [(.int (2 : Int32)), (.int (1 : Int32))]))
    refine own_by (fun _ k => XS.icmpYes X21.here hx rfl (pc0 := 121) (pc' := 159) rfl (hb hby at_121) rfl (tlt (by decide : (1 : Int32) < (2 : Int32))).1 (by decide) (by decide) k) ?_
    show own_Go p e below _ (T21.setTop (mkF m 159 #[.val (.int p0), .val (.int p1), .val (.int p2), .val (.int p3), .val (.int p4), .val (.int (1 : Int32)), .val (.ref b2), .val (.int p0), .val (.int p0), .val (.int (1 : Int32)), .unset] []))
    refine own_by (fun _ k => XS.aload X21.here hx rfl (hb hby at_159) rfl rfl k) ?_
    show own_Go p e below _ (T21.setTop (mkF m 161 #[.val (.int p0), .val (.int p1), .val (.int p2), .val (.int p3), .val (.int p4), .val (.int (1 : Int32)), .val (.ref b2), .val (.int p0), .val (.int p0), .val (.int (1 : Int32)), .unset] [(.ref b2)]))
    refine own_by (fun _ k => XS.iloadN X21.here hx rfl (hb hby at_161) rfl k) ?_
    show own_Go p e below _ (T21.setTop (mkF m 162 #[.val (.int p0), .val (.int p1), .val (.int p2), .val (.int p3), .val (.int p4), .val (.int (1 : Int32)), .val (.ref b2), .val (.int p0), .val (.int p0), .val (.int (1 : Int32)), .unset] [(.int p3), (.ref b2)]))
    have F22 : own_Arf Z T17.heap b4 b5 .int (8 : Int32) (fun i => .int ((own_upd (fun _ => (0 : Int32)) 0 p0) i)) := (F16.keep Kq17 (ninS (Ne.symm (Nat.ne_of_lt (Nat.lt_of_lt_of_le (A2).lt hp10))) nin0))
    obtain ⟨cq23, kq23, q23a, q23b, q23c⟩ := isOf hZ eq21 F20
    obtain ⟨_, _, ⟨T23, L23, k23, n23⟩, -, X23, ⟨Lc23, hQ23, l23, y23, z23⟩, st23⟩ := X21.virtualBack hx (y := (⟨"com/example/margay/margay/index/IntList", "add", "(I)V"⟩ : MethodName)) (z := (⟨"com/example/margay/margay/index/IntList", "add", "(I)V"⟩ : MethodName)) hown (mvT hZ (hw _ (List.mem_of_getElem? (i := 13) rfl))) (mvT hZ (hw _ (List.mem_of_getElem? (i := 14) rfl))) (notFace_of_selects (args := #[]) (mvT hZ (hw _ (List.mem_of_getElem? (i := 16) rfl)))) (mvT hZ (hw _ (List.mem_of_getElem? (i := 16) rfl))) (mvT hZ (hw _ (List.mem_of_getElem? (i := 15) rfl))) (by decide) (backOf (W := 0) (rm3 l Z A0 hw [] b2 p3 (0 : Int32) b4 b5 (8 : Int32) (own_upd (fun _ => (0 : Int32)) 0 p0) T17.heap n0 Z17 F19 F18 F22 (by decide) F20 ge_b2 (by decide) hp9) hZ (hw _ (List.mem_of_getElem? (i := 17) rfl)) (hw _ (List.mem_of_getElem? (i := 3) rfl)) (by decide) (by decide)) q23a q23c (g := (mkF m 162 #[.val (.int p0), .val (.int p1), .val (.int p2), .val (.int p3), .val (.int p4), .val (.int (1 : Int32)), .val (.ref b2), .val (.int p0), .val (.int p0), .val (.int (1 : Int32)), .unset] [(.int p3), (.ref b2)])) rfl (by rw [hml]; rfl) (Steps.refl _) (argsL := [(.int p3)]) (rest := []) (lenOf pd_13 rfl) rfl (by show 2 * 0 + _ ≤ _; exact Nat.le_of_eq rfl) (hb hby at_162) (fun _ _ => ⟨rfl, eq21, (by decide : 2 + 0 ≤ _), (by decide : 10 + 0 ≤ _)⟩)
    dsimp only [Pt.U, Pt.locs, Pt.cells, Pt.slots] at X23 l23 y23 z23 st23 hQ23
    subst l23 y23 z23
    obtain ⟨rfl, Nq23, Kq23, F24, F25, F26, F27⟩ := hQ23
    have N23 := Fr.app N21 Nq23
    have K23 : Keep h0 T23.heap [] := K17.trans Kq23 ((allS (Or.inr sz_b2) (allS (Or.inr sz_b4) all0)))
    have Z23 : n0 ≤ T23.heap.size := Nat.le_trans Z17 Kq23.1
    refine own_by (fun _ k => st23.trans k) ?_
    show own_Go p e below _ (T23.setTop (mkF m 165 #[.val (.int p0), .val (.int p1), .val (.int p2), .val (.int p3), .val (.int p4), .val (.int (1 : Int32)), .val (.ref b2), .val (.int p0), .val (.int p0), .val (.int (1 : Int32)), .unset] []))
    refine own_by (fun _ k => XS.iload X23.here hx rfl (hb hby at_165) rfl k) ?_
    show own_Go p e below _ (T23.setTop (mkF m 167 #[.val (.int p0), .val (.int p1), .val (.int p2), .val (.int p3), .val (.int p4), .val (.int (1 : Int32)), .val (.ref b2), .val (.int p0), .val (.int p0), .val (.int (1 : Int32)), .unset] [(.int (1 : Int32))]))
    refine own_by (fun _ k => XS.ifNo X23.here hx rfl (hb hby at_167) rfl ((if0 _ _).trans (feq (by decide : ¬ ((1 : Int32) = (0 : Int32)))).1) k) ?_
    show own_Go p e below _ (T23.setTop (mkF m 170 #[.val (.int p0), .val (.int p1), .val (.int p2), .val (.int p3), .val (.int p4), .val (.int (1 : Int32)), .val (.ref b2), .val (.int p0), .val (.int p0), .val (.int (1 : Int32)), .unset] []))
    refine own_by (fun _ k => XS.aload X23.here hx rfl (hb hby at_170) rfl rfl k) ?_
    show own_Go p e below _ (T23.setTop (mkF m 172 #[.val (.int p0), .val (.int p1), .val (.int p2), .val (.int p3), .val (.int p4), .val (.int (1 : Int32)), .val (.ref b2), .val (.int p0), .val (.int p0), .val (.int (1 : Int32)), .unset] [(.ref b2)]))
    obtain ⟨cq28, kq28, q28a, q28b, q28c⟩ := isOf hZ rfl F26
    obtain ⟨_, _, ⟨T28, L28, k28, n28⟩, -, X28, ⟨Lc28, hQ28, l28, y28, z28⟩, st28⟩ := X23.virtualBack hx (y := (⟨"com/example/margay/margay/index/IntList", "size", "()I"⟩ : MethodName)) (z := (⟨"com/example/margay/margay/index/IntList", "size", "()I"⟩ : MethodName)) hown (mvT hZ (hw _ (List.mem_of_getElem? (i := 25) rfl))) (mvT hZ (hw _ (List.mem_of_getElem? (i := 26) rfl))) (notFace_of_selects (args := #[]) (mvT hZ (hw _ (List.mem_of_getElem? (i := 28) rfl)))) (mvT hZ (hw _ (List.mem_of_getElem? (i := 28) rfl))) (mvT hZ (hw _ (List.mem_of_getElem? (i := 27) rfl))) (by decide) (backOf (W := 0) (rm5 l Z A0 hw [] b2 (1 : Int32) T23.heap n0 Z23 F24) hZ (hw _ (List.mem_of_getElem? (i := 29) rfl)) (hw _ (List.mem_of_getElem? (i := 3) rfl)) (by decide) (by decide)) q28a q28c (g := (mkF m 172 #[.val (.int p0), .val (.int p1), .val (.int p2), .val (.int p3), .val (.int p4), .val (.int (1 : Int32)), .val (.ref b2), .val (.int p0), .val (.int p0), .val (.int (1 : Int32)), .unset] [(.ref b2)])) rfl (by rw [hml]; rfl) (Steps.refl _) (argsL := []) (rest := []) (lenOf pd_20 rfl) rfl (by show 2 * 0 + _ ≤ _; exact Nat.le_of_eq rfl) (hb hby at_172) (fun _ _ => ⟨rfl, rfl, (by decide : 2 + 0 ≤ _), (by decide : 10 + 0 ≤ _)⟩)
    dsimp only [Pt.U, Pt.locs, Pt.cells, Pt.slots] at X28 l28 y28 z28 st28 hQ28
    subst l28 y28 z28
    obtain ⟨rfl, Nq28, eq28⟩ := hQ28
    have N28 := Fr.app N23 Nq28
    refine own_by (fun _ k => st28.trans k) ?_
    show own_Go p e below _ (T28.setTop (mkF m 175 #[.val (.int p0), .val (.int p1), .val (.int p2), .val (.int p3), .val (.int p4), .val (.int (1 : Int32)), .val (.ref b2), .val (.int p0), .val (.int p0), .val (.int (1 : Int32)), .unset] [(.int (1 : Int32))]))
    refine own_by (fun _ k => XS.iload X28.here hx rfl (hb hby at_175) rfl k) ?_
    show own_Go p e below _ (T28.setTop (mkF m 177 #[.val (.int p0), .val (.int p1), .val (.int p2), .val (.int p3), .val (.int p4), .val (.int (1 : Int32)), .val (.ref b2), .val (.int p0), .val (.int p0), .val (.int (1 : Int32)), .unset] [(.int (1 : Int32)), (.int (1 : Int32))]))
    refine own_by (fun _ k => XS.icmpNo X28.here hx rfl (hb hby at_177) rfl (teq (by decide : (1 : Int32) = (1 : Int32))).2 k) ?_
    show own_Go p e below _ (T28.setTop (mkF m 180 #[.val (.int p0), .val (.int p1), .val (.int p2), .val (.int p3), .val (.int p4), .val (.int (1 : Int32)), .val (.ref b2), .val (.int p0), .val (.int p0), .val (.int (1 : Int32)), .unset] []))
    refine own_by (fun _ k => XS.iconst X28.here hx rfl (hb hby at_180) k) ?_
    show own_Go p e below _ (T28.setTop (mkF m 181 #[.val (.int p0), .val (.int p1), .val (.int p2), .val (.int p3), .val (.int p4), .val (.int (1 : Int32)), .val (.ref b2), .val (.int p0), .val (.int p0), .val (.int (1 : Int32)), .unset] [(.int (1 : Int32))]))
    refine own_by (fun _ k => XS.goto X28.here hx rfl (pc0 := 181) (pc' := 185) rfl (hb hby at_181) (by decide) (by decide) k) ?_
    show own_Go p e below _ (T28.setTop (mkF m 185 #[.val (.int p0), .val (.int p1), .val (.int p2), .val (.int p3), .val (.int p4), .val (.int (1 : Int32)), .val (.ref b2), .val (.int p0), .val (.int p0), .val (.int (1 : Int32)), .unset] [(.int (1 : Int32))]))
    refine own_by (fun _ k => XS.istore X28.here hx rfl (hb hby at_185) rfl (l' := #[.val (.int p0), .val (.int p1), .val (.int p2), .val (.int p3), .val (.int p4), .val (.int (1 : Int32)), .val (.ref b2), .val (.int p0), .val (.int p0), .val (.int (1 : Int32)), .unset]) rfl k) ?_
    show own_Go p e below _ (T28.setTop (mkF m 187 #[.val (.int p0), .val (.int p1), .val (.int p2), .val (.int p3), .val (.int p4), .val (.int (1 : Int32)), .val (.ref b2), .val (.int p0), .val (.int p0), .val (.int (1 : Int32)), .unset] []))
    refine own_by (fun _ k => XS.iload X28.here hx rfl (hb hby at_187) rfl k) ?_
    show own_Go p e below _ (T28.setTop (mkF m 189 #[.val (.int p0), .val (.int p1), .val (.int p2), .val (.int p3), .val (.int p4), .val (.int (1 : Int32)), .val (.ref b2), .val (.int p0), .val (.int p0), .val (.int (1 : Int32)), .unset] [(.int (1 : Int32))]))
    refine own_by (fun _ k => XS.ifNo X28.here hx rfl (hb hby at_189) rfl ((if0 _ _).trans (feq (by decide : ¬ ((1 : Int32) = (0 : Int32)))).1) k) ?_
    show own_Go p e below _ (T28.setTop (mkF m 192 #[.val (.int p0), .val (.int p1), .val (.int p2), .val (.int p3), .val (.int p4), .val (.int (1 : Int32)), .val (.ref b2), .val (.int p0), .val (.int p0), .val (.int (1 : Int32)), .unset] []))
    refine own_by (fun _ k => XS.aload X28.here hx rfl (hb hby at_192) rfl rfl k) ?_
    show own_Go p e below _ (T28.setTop (mkF m 194 #[.val (.int p0), .val (.int p1), .val (.int p2), .val (.int p3), .val (.int p4), .val (.int (1 : Int32)), .val (.ref b2), .val (.int p0), .val (.int p0), .val (.int (1 : Int32)), .unset] [(.ref b2)]))
    refine own_by (fun _ k => XS.iload X28.here hx rfl (hb hby at_194) rfl k) ?_
    show own_Go p e below _ (T28.setTop (mkF m 196 #[.val (.int p0), .val (.int p1), .val (.int p2), .val (.int p3), .val (.int p4), .val (.int (1 : Int32)), .val (.ref b2), .val (.int p0), .val (.int p0), .val (.int (1 : Int32)), .unset] [(.int (1 : Int32)), (.ref b2)]))
    refine own_by (fun _ k => XS.iconst X28.here hx rfl (hb hby at_196) k) ?_
    show own_Go p e below _ (T28.setTop (mkF m 197 #[.val (.int p0), .val (.int p1), .val (.int p2), .val (.int p3), .val (.int p4), .val (.int (1 : Int32)), .val (.ref b2), .val (.int p0), .val (.int p0), .val (.int (1 : Int32)), .unset] [(.int (1 : Int32)), (.int (1 : Int32)), (.ref b2)]))
    refine own_by (fun _ k => XS.isub X28.here hx rfl (hb hby at_197) rfl k) ?_
    show own_Go p e below _ (T28.setTop (mkF m 198 #[.val (.int p0), .val (.int p1), .val (.int p2), .val (.int p3), .val (.int p4), .val (.int (1 : Int32)), .val (.ref b2), .val (.int p0), .val (.int p0), .val (.int (1 : Int32)), .unset] [(.int (0 : Int32)), (.ref b2)]))
    obtain ⟨cq29, kq29, q29a, q29b, q29c⟩ := isOf hZ eq28 F26
    obtain ⟨_, _, ⟨T29, L29, k29, n29⟩, -, X29, ⟨Lc29, hQ29, l29, y29, z29⟩, st29⟩ := X28.virtualBack hx (y := (⟨"com/example/margay/margay/index/IntList", "get", "(I)I"⟩ : MethodName)) (z := (⟨"com/example/margay/margay/index/IntList", "get", "(I)I"⟩ : MethodName)) hown (mvT hZ (hw _ (List.mem_of_getElem? (i := 30) rfl))) (mvT hZ (hw _ (List.mem_of_getElem? (i := 31) rfl))) (notFace_of_selects (args := #[]) (mvT hZ (hw _ (List.mem_of_getElem? (i := 33) rfl)))) (mvT hZ (hw _ (List.mem_of_getElem? (i := 33) rfl))) (mvT hZ (hw _ (List.mem_of_getElem? (i := 32) rfl))) (by decide) (backOf (W := 0) (rm6 l Z A0 hw [] b2 (0 : Int32) b4 b5 (8 : Int32) (own_upd (own_upd (fun _ => (0 : Int32)) 0 p0) 0 p3) T23.heap n0 Z23 F25 F27 (by decide)) hZ (hw _ (List.mem_of_getElem? (i := 34) rfl)) (hw _ (List.mem_of_getElem? (i := 3) rfl)) (by decide) (by decide)) q29a q29c (g := (mkF m 198 #[.val (.int p0), .val (.int p1), .val (.int p2), .val (.int p3), .val (.int p4), .val (.int (1 : Int32)), .val (.ref b2), .val (.int p0), .val (.int p0), .val (.int (1 : Int32)), .unset] [(.int (0 : Int32)), (.ref b2)])) rfl (by rw [hml]; rfl) (Steps.refl _) (argsL := [(.int (0 : Int32))]) (rest := []) (lenOf pd_30 rfl) rfl (by show 2 * 0 + _ ≤ _; exact Nat.le_of_eq rfl) (hb hby at_198) (fun _ _ => ⟨rfl, eq28, (by decide : 2 + 0 ≤ _), (by decide : 10 + 0 ≤ _)⟩)
    dsimp only [Pt.U, Pt.locs, Pt.cells, Pt.slots] at X29 l29 y29 z29 st29 hQ29
    subst l29 y29 z29
    obtain ⟨rfl, Nq29, eq29⟩ := hQ29
    have N29 := Fr.app N28 Nq29
    refine own_by (fun _ k => st29.trans k) ?_
    show own_Go p e below _ (T29.setTop (mkF m 201 #[.val (.int p0), .val (.int p1), .val (.int p2), .val (.int p3), .val (.int p4), .val (.int (1 : Int32)), .val (.ref b2), .val (.int p0), .val (.int p0), .val (.int (1 : Int32)), .unset] [(.int p3)]))
    refine own_by (fun _ k => XS.iloadN X29.here hx rfl (hb hby at_201) rfl k) ?_
    show own_Go p e below _ (T29.setTop (mkF m 202 #[.val (.int p0), .val (.int p1), .val (.int p2), .val (.int p3), .val (.int p4), .val (.int (1 : Int32)), .val (.ref b2), .val (.int p0), .val (.int p0), .val (.int (1 : Int32)), .unset] [(.int p3), (.int p3)]))
    refine own_by (fun _ k => XS.icmpNo X29.here hx rfl (hb hby at_202) rfl (teq (rfl : p3 = p3)).2 k) ?_
    show own_Go p e below _ (T29.setTop (mkF m 205 #[.val (.int p0), .val (.int p1), .val (.int p2), .val (.int p3), .val (.int p4), .val (.int (1 : Int32)), .val (.ref b2), .val (.int p0), .val (.int p0), .val (.int (1 : Int32)), .unset] []))
    refine own_by (fun _ k => XS.iconst X29.here hx rfl (hb hby at_205) k) ?_
    show own_Go p e below _ (T29.setTop (mkF m 206 #[.val (.int p0), .val (.int p1), .val (.int p2), .val (.int p3), .val (.int p4), .val (.int (1 : Int32)), .val (.ref b2), .val (.int p0), .val (.int p0), .val (.int (1 : Int32)), .unset] [(.int (1 : Int32))]))
    refine own_by (fun _ k => XS.goto X29.here hx rfl (pc0 := 206) (pc' := 210) rfl (hb hby at_206) (by decide) (by decide) k) ?_
    show own_Go p e below _ (T29.setTop (mkF m 210 #[.val (.int p0), .val (.int p1), .val (.int p2), .val (.int p3), .val (.int p4), .val (.int (1 : Int32)), .val (.ref b2), .val (.int p0), .val (.int p0), .val (.int (1 : Int32)), .unset] [(.int (1 : Int32))]))
    refine own_by (fun _ k => XS.istore X29.here hx rfl (hb hby at_210) rfl (l' := #[.val (.int p0), .val (.int p1), .val (.int p2), .val (.int p3), .val (.int p4), .val (.int (1 : Int32)), .val (.ref b2), .val (.int p0), .val (.int p0), .val (.int (1 : Int32)), .unset]) rfl k) ?_
    show own_Go p e below _ (T29.setTop (mkF m 212 #[.val (.int p0), .val (.int p1), .val (.int p2), .val (.int p3), .val (.int p4), .val (.int (1 : Int32)), .val (.ref b2), .val (.int p0), .val (.int p0), .val (.int (1 : Int32)), .unset] []))
    refine own_by (fun _ k => XS.iload X29.here hx rfl (hb hby at_212) rfl k) ?_
    show own_Go p e below _ (T29.setTop (mkF m 214 #[.val (.int p0), .val (.int p1), .val (.int p2), .val (.int p3), .val (.int p4), .val (.int (1 : Int32)), .val (.ref b2), .val (.int p0), .val (.int p0), .val (.int (1 : Int32)), .unset] [(.int (1 : Int32))]))
    exact own_retN X29 hx (t := .boolean) Bd.returns (by simp) (hb hby at_214) hlk eq29 ⟨rfl, N29⟩ (by decide) (by decide)
  · skip
    show own_Go p e below _ (s₁.setTop (mkF m 11 #[.val (.int p0), .val (.int p1), .val (.int p2), .val (.int p3), .val (.int p4), .val (.int (2 : Int32)), .unset, .unset, .unset, .unset, .unset] []))
    obtain ⟨T30, h30, X30, e30, E30, A30, D30, -, st30⟩ := newO X0 hx hZ hown (hw _ (List.mem_of_getElem? (i := 1) rfl)) (hw _ (List.mem_of_getElem? (i := 2) rfl)) (hw _ (List.mem_of_getElem? (i := 3) rfl)) e0 (g := (mkF m 11 #[.val (.int p0), .val (.int p1), .val (.int p2), .val (.int p3), .val (.int p4), .val (.int (2 : Int32)), .unset, .unset, .unset, .unset, .unset] [])) rfl (hb hby at_11) (by decide) (by decide)
    obtain ⟨b30, g30⟩ : ∃ z, z = h0.size := ⟨_, rfl⟩
    have ge_b30 : n0 ≤ b30 := Nat.le_trans Z0 (Nat.le_of_eq g30.symm)
    have sz_b30 : h0.size ≤ b30 := Nat.le_trans (Keep.refl h0 []).1 (Nat.le_of_eq g30.symm)
    have K30 : Keep h0 h30 [] := (Keep.refl h0 []).ext E30
    have Z30 : n0 ≤ h30.size := Nat.le_trans Z0 E30.1
    rw [← g30] at A30 D30 st30
    have F_values_b30 : Fld Z h30 b30 "com/example/margay/margay/index/IntList" "values" "[I" .null := D30 (Or.inl (hw _ (List.mem_of_getElem? (i := 12) rfl))) (ty := (.array .int)) (by decide)
    have F_size_b30 : Fld Z h30 b30 "com/example/margay/margay/index/IntList" "size" "I" (.int (0 : Int32)) := D30 (Or.inl (hw _ (List.mem_of_getElem? (i := 19) rfl))) (ty := .int) (by decide)
    refine own_by st30 ?_
    show own_Go p e below _ (T30.setTop (mkF m 14 #[.val (.int p0), .val (.int p1), .val (.int p2), .val (.int p3), .val (.int p4), .val (.int (2 : Int32)), .unset, .unset, .unset, .unset, .unset] [(.ref b30)]))
    refine own_by (fun _ k => XS.dup X30.here hx rfl (hb hby at_14) rfl rfl k) ?_
    show own_Go p e below _ (T30.setTop (mkF m 15 #[.val (.int p0), .val (.int p1), .val (.int p2), .val (.int p3), .val (.int p4), .val (.int (2 : Int32)), .unset, .unset, .unset, .unset, .unset] [(.ref b30), (.ref b30)]))
    obtain ⟨_, _, ⟨T31, L31, k31, n31⟩, -, X31, ⟨Lc31, hQ31, l31, y31, z31⟩, st31⟩ := X30.specialBack hx (y := (⟨"com/example/margay/margay/index/IntList", "<init>", "()V"⟩ : MethodName)) rfl hown (mvT hZ (hw _ (List.mem_of_getElem? (i := 4) rfl))) (mvT hZ (hw _ (List.mem_of_getElem? (i := 5) rfl))) (mvT hZ (hw _ (List.mem_of_getElem? (i := 6) rfl))) (by decide) (backOf (W := 1) (rm1 l Z A0 hw [] b30 (.null) (0 : Int32) h30 n0 Z30 A30 F_values_b30 ge_b30 F_size_b30) hZ (hw _ (List.mem_of_getElem? (i := 6) rfl)) (hw _ (List.mem_of_getElem? (i := 3) rfl)) (by decide) (by decide)) (g := (mkF m 15 #[.val (.int p0), .val (.int p1), .val (.int p2), .val (.int p3), .val (.int p4), .val (.int (2 : Int32)), .unset, .unset, .unset, .unset, .unset] [(.ref b30), (.ref b30)])) rfl (by rw [hml]; rfl) (Steps.refl _) (a := b30) (argsL := []) (rest := [(.ref b30)]) (lenOf pd_4 rfl) rfl (by show 2 * 0 + _ ≤ _; exact Nat.le_of_eq rfl) (hb hby at_15) (fun _ _ => ⟨rfl, e30, (by decide : 1 + 1 ≤ _), (by decide : 2 + 8 ≤ _)⟩)
    dsimp only [Pt.U, Pt.locs, Pt.cells, Pt.slots] at X31 l31 y31 z31 st31 hQ31
    subst l31 y31 z31
    obtain ⟨b32, b33, rfl, Nq31, Kq31, F34, F35, F36, hp37, hp38, F39⟩ := hQ31
    have N31 := Fr.app N0 Nq31
    have K31 : Keep h0 T31.heap [] := K30.trans Kq31 ((allS (Or.inr sz_b30) all0))
    have Z31 : n0 ≤ T31.heap.size := Nat.le_trans Z30 Kq31.1
    have sz_b32 : h0.size ≤ b32 := Nat.le_trans K30.1 hp38
    refine own_by (fun _ k => st31.trans k) ?_
    show own_Go p e below _ (T31.setTop (mkF m 18 #[.val (.int p0), .val (.int p1), .val (.int p2), .val (.int p3), .val (.int p4), .val (.int (2 : Int32)), .unset, .unset, .unset, .unset, .unset] [(.ref b30)]))
    refine own_by (fun _ k => XS.astore X31.here hx rfl (hb hby at_18) rfl rfl (l' := #[.val (.int p0), .val (.int p1), .val (.int p2), .val (.int p3), .val (.int p4), .val (.int (2 : Int32)), .val (.ref b30), .unset, .unset, .unset, .unset]) rfl k) ?_
    show own_Go p e below _ (T31.setTop (mkF m 20 #[.val (.int p0), .val (.int p1), .val (.int p2), .val (.int p3), .val (.int p4), .val (.int (2 : Int32)), .val (.ref b30), .unset, .unset, .unset, .unset] []))
    refine own_by (fun _ k => XS.aload X31.here hx rfl (hb hby at_20) rfl rfl k) ?_
    show own_Go p e below _ (T31.setTop (mkF m 22 #[.val (.int p0), .val (.int p1), .val (.int p2), .val (.int p3), .val (.int p4), .val (.int (2 : Int32)), .val (.ref b30), .unset, .unset, .unset, .unset] [(.ref b30)]))
    refine own_by (fun _ k => XS.iloadN X31.here hx rfl (hb hby at_22) rfl k) ?_
    show own_Go p e below _ (T31.setTop (mkF m 23 #[.val (.int p0), .val (.int p1), .val (.int p2), .val (.int p3), .val (.int p4), .val (.int (2 : Int32)), .val (.ref b30), .unset, .unset, .unset, .unset] [(.int p0), (.ref b30)]))
    obtain ⟨cq40, kq40, q40a, q40b, q40c⟩ := isOf hZ rfl F34
    obtain ⟨_, _, ⟨T40, L40, k40, n40⟩, -, X40, ⟨Lc40, hQ40, l40, y40, z40⟩, st40⟩ := X31.virtualBack hx (y := (⟨"com/example/margay/margay/index/IntList", "add", "(I)V"⟩ : MethodName)) (z := (⟨"com/example/margay/margay/index/IntList", "add", "(I)V"⟩ : MethodName)) hown (mvT hZ (hw _ (List.mem_of_getElem? (i := 13) rfl))) (mvT hZ (hw _ (List.mem_of_getElem? (i := 14) rfl))) (notFace_of_selects (args := #[]) (mvT hZ (hw _ (List.mem_of_getElem? (i := 16) rfl)))) (mvT hZ (hw _ (List.mem_of_getElem? (i := 16) rfl))) (mvT hZ (hw _ (List.mem_of_getElem? (i := 15) rfl))) (by decide) (backOf (W := 0) (rm3 l Z A0 hw [] b30 p0 (0 : Int32) b32 b33 (8 : Int32) (fun _ => (0 : Int32)) T31.heap n0 Z31 F36 F35 F39 (by decide) F34 ge_b30 (by decide) hp37) hZ (hw _ (List.mem_of_getElem? (i := 17) rfl)) (hw _ (List.mem_of_getElem? (i := 3) rfl)) (by decide) (by decide)) q40a q40c (g := (mkF m 23 #[.val (.int p0), .val (.int p1), .val (.int p2), .val (.int p3), .val (.int p4), .val (.int (2 : Int32)), .val (.ref b30), .unset, .unset, .unset, .unset] [(.int p0), (.ref b30)])) rfl (by rw [hml]; rfl) (Steps.refl _) (argsL := [(.int p0)]) (rest := []) (lenOf pd_13 rfl) rfl (by show 2 * 0 + _ ≤ _; exact Nat.le_of_eq rfl) (hb hby at_23) (fun _ _ => ⟨rfl, rfl, (by decide : 2 + 0 ≤ _), (by decide : 10 + 0 ≤ _)⟩)
    dsimp only [Pt.U, Pt.locs, Pt.cells, Pt.slots] at X40 l40 y40 z40 st40 hQ40
    subst l40 y40 z40
    obtain ⟨rfl, Nq40, Kq40, F41, F42, F43, F44⟩ := hQ40
    have N40 := Fr.app N31 Nq40
    have K40 : Keep h0 T40.heap [] := K31.trans Kq40 ((allS (Or.inr sz_b30) (allS (Or.inr sz_b32) all0)))
    have Z40 : n0 ≤ T40.heap.size := Nat.le_trans Z31 Kq40.1
    refine own_by (fun _ k => st40.trans k) ?_
    show own_Go p e below _ (T40.setTop (mkF m 26 #[.val (.int p0), .val (.int p1), .val (.int p2), .val (.int p3), .val (.int p4), .val (.int (2 : Int32)), .val (.ref b30), .unset, .unset, .unset, .unset] []))
    refine own_by (fun _ k => XS.iload X40.here hx rfl (hb hby at_26) rfl k) ?_
    show own_Go p e below _ (T40.setTop (mkF m 28 #[.val (.int p0), .val (.int p1), .val (.int p2), .val (.int p3), .val (.int p4), .val (.int (2 : Int32)), .val (.ref b30), .unset, .unset, .unset, .unset] [(.int (2 : Int32))]))
    refine own_by (fun _ k => XS.iconst X40.here hx rfl (hb hby at_28) k) ?_
    show own_Go p e below _ (T40.setTop (mkF m 29 #[.val (.int p0), .val (.int p1), .val (.int p2), .val (.int p3), .val (.int p4), .val (.int (2 : Int32)), .val (.ref b30), .unset, .unset, .unset, .unset] [(.int (2 : Int32)), (.int (2 : Int32))]))
    refine own_by (fun _ k => XS.icmpNo X40.here hx rfl (hb hby at_29) rfl (flt (by decide : ¬ ((2 : Int32) < (2 : Int32)))).1 k) ?_
    show own_Go p e below _ (T40.setTop (mkF m 32 #[.val (.int p0), .val (.int p1), .val (.int p2), .val (.int p3), .val (.int p4), .val (.int (2 : Int32)), .val (.ref b30), .unset, .unset, .unset, .unset] []))
    refine own_by (fun _ k => XS.aload X40.here hx rfl (hb hby at_32) rfl rfl k) ?_
    show own_Go p e below _ (T40.setTop (mkF m 34 #[.val (.int p0), .val (.int p1), .val (.int p2), .val (.int p3), .val (.int p4), .val (.int (2 : Int32)), .val (.ref b30), .unset, .unset, .unset, .unset] [(.ref b30)]))
    refine own_by (fun _ k => XS.iloadN X40.here hx rfl (hb hby at_34) rfl k) ?_
    show own_Go p e below _ (T40.setTop (mkF m 35 #[.val (.int p0), .val (.int p1), .val (.int p2), .val (.int p3), .val (.int p4), .val (.int (2 : Int32)), .val (.ref b30), .unset, .unset, .unset, .unset] [(.int p1), (.ref b30)]))
    obtain ⟨cq45, kq45, q45a, q45b, q45c⟩ := isOf hZ rfl F43
    obtain ⟨_, _, ⟨T45, L45, k45, n45⟩, -, X45, ⟨Lc45, hQ45, l45, y45, z45⟩, st45⟩ := X40.virtualBack hx (y := (⟨"com/example/margay/margay/index/IntList", "add", "(I)V"⟩ : MethodName)) (z := (⟨"com/example/margay/margay/index/IntList", "add", "(I)V"⟩ : MethodName)) hown (mvT hZ (hw _ (List.mem_of_getElem? (i := 13) rfl))) (mvT hZ (hw _ (List.mem_of_getElem? (i := 14) rfl))) (notFace_of_selects (args := #[]) (mvT hZ (hw _ (List.mem_of_getElem? (i := 16) rfl)))) (mvT hZ (hw _ (List.mem_of_getElem? (i := 16) rfl))) (mvT hZ (hw _ (List.mem_of_getElem? (i := 15) rfl))) (by decide) (backOf (W := 0) (rm3 l Z A0 hw [] b30 p1 (1 : Int32) b32 b33 (8 : Int32) (own_upd (fun _ => (0 : Int32)) 0 p0) T40.heap n0 Z40 F41 F42 F44 (by decide) F43 ge_b30 (by decide) hp37) hZ (hw _ (List.mem_of_getElem? (i := 17) rfl)) (hw _ (List.mem_of_getElem? (i := 3) rfl)) (by decide) (by decide)) q45a q45c (g := (mkF m 35 #[.val (.int p0), .val (.int p1), .val (.int p2), .val (.int p3), .val (.int p4), .val (.int (2 : Int32)), .val (.ref b30), .unset, .unset, .unset, .unset] [(.int p1), (.ref b30)])) rfl (by rw [hml]; rfl) (Steps.refl _) (argsL := [(.int p1)]) (rest := []) (lenOf pd_13 rfl) rfl (by show 2 * 0 + _ ≤ _; exact Nat.le_of_eq rfl) (hb hby at_35) (fun _ _ => ⟨rfl, rfl, (by decide : 2 + 0 ≤ _), (by decide : 10 + 0 ≤ _)⟩)
    dsimp only [Pt.U, Pt.locs, Pt.cells, Pt.slots] at X45 l45 y45 z45 st45 hQ45
    subst l45 y45 z45
    obtain ⟨rfl, Nq45, Kq45, F46, F47, F48, F49⟩ := hQ45
    have N45 := Fr.app N40 Nq45
    have K45 : Keep h0 T45.heap [] := K40.trans Kq45 ((allS (Or.inr sz_b30) (allS (Or.inr sz_b32) all0)))
    have Z45 : n0 ≤ T45.heap.size := Nat.le_trans Z40 Kq45.1
    refine own_by (fun _ k => st45.trans k) ?_
    show own_Go p e below _ (T45.setTop (mkF m 38 #[.val (.int p0), .val (.int p1), .val (.int p2), .val (.int p3), .val (.int p4), .val (.int (2 : Int32)), .val (.ref b30), .unset, .unset, .unset, .unset] []))
    refine own_by (fun _ k => XS.iload X45.here hx rfl (hb hby at_38) rfl k) ?_
    show own_Go p e below _ (T45.setTop (mkF m 40 #[.val (.int p0), .val (.int p1), .val (.int p2), .val (.int p3), .val (.int p4), .val (.int (2 : Int32)), .val (.ref b30), .unset, .unset, .unset, .unset] [(.int (2 : Int32))]))
    refine own_by (fun _ k => XS.iconst X45.here hx rfl (hb hby at_40) k) ?_
    show own_Go p e below _ (T45.setTop (mkF m 41 #[.val (.int p0), .val (.int p1), .val (.int p2), .val (.int p3), .val (.int p4), .val (.int (2 : Int32)), .val (.ref b30), .unset, .unset, .unset, .unset] [(.int (3 : Int32)), (.int (2 : Int32))]))
    refine own_by (fun _ k => XS.icmpYes X45.here hx rfl (pc0 := 41) (pc' := 50) rfl (hb hby at_41) rfl (tlt (by decide : (2 : Int32) < (3 : Int32))).1 (by decide) (by decide) k) ?_
    show own_Go p e below _ (T45.setTop (mkF m 50 #[.val (.int p0), .val (.int p1), .val (.int p2), .val (.int p3), .val (.int p4), .val (.int (2 : Int32)), .val (.ref b30), .unset, .unset, .unset, .unset] []))
    refine own_by (fun _ k => XS.iload X45.here hx rfl (hb hby at_50) rfl k) ?_
    show own_Go p e below _ (T45.setTop (mkF m 52 #[.val (.int p0), .val (.int p1), .val (.int p2), .val (.int p3), .val (.int p4), .val (.int (2 : Int32)), .val (.ref b30), .unset, .unset, .unset, .unset] [(.int (2 : Int32))]))
    refine own_by (fun _ k => XS.iconst X45.here hx rfl (hb hby at_52) k) ?_
    show own_Go p e below _ (T45.setTop (mkF m 53 #[.val (.int p0), .val (.int p1), .val (.int p2), .val (.int p3), .val (.int p4), .val (.int (2 : Int32)), .val (.ref b30), .unset, .unset, .unset, .unset] [(.int (1 : Int32)), (.int (2 : Int32))]))
    refine own_by (fun _ k => XS.icmpYes X45.here hx rfl (pc0 := 53) (pc' := 60) rfl (hb hby at_53) rfl (feq (by decide : ¬ ((2 : Int32) = (1 : Int32)))).2 (by decide) (by decide) k) ?_
    show own_Go p e below _ (T45.setTop (mkF m 60 #[.val (.int p0), .val (.int p1), .val (.int p2), .val (.int p3), .val (.int p4), .val (.int (2 : Int32)), .val (.ref b30), .unset, .unset, .unset, .unset] []))
    refine own_by (fun _ k => XS.iload X45.here hx rfl (hb hby at_60) rfl k) ?_
    show own_Go p e below _ (T45.setTop (mkF m 62 #[.val (.int p0), .val (.int p1), .val (.int p2), .val (.int p3), .val (.int p4), .val (.int (2 : Int32)), .val (.ref b30), .unset, .unset, .unset, .unset] [(.int (2 : Int32))]))
    refine own_by (fun _ k => XS.iconst X45.here hx rfl (hb hby at_62) k) ?_
    show own_Go p e below _ (T45.setTop (mkF m 63 #[.val (.int p0), .val (.int p1), .val (.int p2), .val (.int p3), .val (.int p4), .val (.int (2 : Int32)), .val (.ref b30), .unset, .unset, .unset, .unset] [(.int (2 : Int32)), (.int (2 : Int32))]))
    refine own_by (fun _ k => XS.icmpNo X45.here hx rfl (hb hby at_63) rfl (teq (by decide : (2 : Int32) = (2 : Int32))).2 k) ?_
    show own_Go p e below _ (T45.setTop (mkF m 66 #[.val (.int p0), .val (.int p1), .val (.int p2), .val (.int p3), .val (.int p4), .val (.int (2 : Int32)), .val (.ref b30), .unset, .unset, .unset, .unset] []))
    refine own_by (fun _ k => XS.iloadN X45.here hx rfl (hb hby at_66) rfl k) ?_
    show own_Go p e below _ (T45.setTop (mkF m 67 #[.val (.int p0), .val (.int p1), .val (.int p2), .val (.int p3), .val (.int p4), .val (.int (2 : Int32)), .val (.ref b30), .unset, .unset, .unset, .unset] [(.int p1)]))
    refine own_by (fun _ k => XS.goto X45.here hx rfl (pc0 := 67) (pc' := 71) rfl (hb hby at_67) (by decide) (by decide) k) ?_
    show own_Go p e below _ (T45.setTop (mkF m 71 #[.val (.int p0), .val (.int p1), .val (.int p2), .val (.int p3), .val (.int p4), .val (.int (2 : Int32)), .val (.ref b30), .unset, .unset, .unset, .unset] [(.int p1)]))
    refine own_by (fun _ k => XS.istore X45.here hx rfl (hb hby at_71) rfl (l' := #[.val (.int p0), .val (.int p1), .val (.int p2), .val (.int p3), .val (.int p4), .val (.int (2 : Int32)), .val (.ref b30), .val (.int p1), .unset, .unset, .unset]) rfl k) ?_
    show own_Go p e below _ (T45.setTop (mkF m 73 #[.val (.int p0), .val (.int p1), .val (.int p2), .val (.int p3), .val (.int p4), .val (.int (2 : Int32)), .val (.ref b30), .val (.int p1), .unset, .unset, .unset] []))
    refine own_by (fun _ k => XS.aload X45.here hx rfl (hb hby at_73) rfl rfl k) ?_
    show own_Go p e below _ (T45.setTop (mkF m 75 #[.val (.int p0), .val (.int p1), .val (.int p2), .val (.int p3), .val (.int p4), .val (.int (2 : Int32)), .val (.ref b30), .val (.int p1), .unset, .unset, .unset] [(.ref b30)]))
    obtain ⟨cq50, kq50, q50a, q50b, q50c⟩ := isOf hZ rfl F48
    obtain ⟨_, _, ⟨T50, L50, k50, n50⟩, -, X50, ⟨Lc50, hQ50, l50, y50, z50⟩, st50⟩ := X45.virtualBack hx (y := (⟨"com/example/margay/margay/index/IntList", "removeLast", "()I"⟩ : MethodName)) (z := (⟨"com/example/margay/margay/index/IntList", "removeLast", "()I"⟩ : MethodName)) hown (mvT hZ (hw _ (List.mem_of_getElem? (i := 20) rfl))) (mvT hZ (hw _ (List.mem_of_getElem? (i := 21) rfl))) (notFace_of_selects (args := #[]) (mvT hZ (hw _ (List.mem_of_getElem? (i := 23) rfl)))) (mvT hZ (hw _ (List.mem_of_getElem? (i := 23) rfl))) (mvT hZ (hw _ (List.mem_of_getElem? (i := 22) rfl))) (by decide) (backOf (W := 0) (rm4 l Z A0 hw [] b30 b32 (2 : Int32) b33 (8 : Int32) (own_upd (own_upd (fun _ => (0 : Int32)) 0 p0) 1 p1) T45.heap n0 Z45 F47 F46 F48 ge_b30 F49 (by decide)) hZ (hw _ (List.mem_of_getElem? (i := 24) rfl)) (hw _ (List.mem_of_getElem? (i := 3) rfl)) (by decide) (by decide)) q50a q50c (g := (mkF m 75 #[.val (.int p0), .val (.int p1), .val (.int p2), .val (.int p3), .val (.int p4), .val (.int (2 : Int32)), .val (.ref b30), .val (.int p1), .unset, .unset, .unset] [(.ref b30)])) rfl (by rw [hml]; rfl) (Steps.refl _) (argsL := []) (rest := []) (lenOf pd_20 rfl) rfl (by show 2 * 0 + _ ≤ _; exact Nat.le_of_eq rfl) (hb hby at_75) (fun _ _ => ⟨rfl, rfl, (by decide : 2 + 0 ≤ _), (by decide : 10 + 0 ≤ _)⟩)
    dsimp only [Pt.U, Pt.locs, Pt.cells, Pt.slots] at X50 l50 y50 z50 st50 hQ50
    subst l50 y50 z50
    obtain ⟨rfl, Nq50, Kq50, F51, F52, F53⟩ := hQ50
    have N50 := Fr.app N45 Nq50
    have K50 : Keep h0 T50.heap [] := K45.trans Kq50 ((allS (Or.inr sz_b30) all0))
    have Z50 : n0 ≤ T50.heap.size := Nat.le_trans Z45 Kq50.1
    refine own_by (fun _ k => st50.trans k) ?_
    show own_Go p e below _ (T50.setTop (mkF m 78 #[.val (.int p0), .val (.int p1), .val (.int p2), .val (.int p3), .val (.int p4), .val (.int (2 : Int32)), .val (.ref b30), .val (.int p1), .unset, .unset, .unset] [(.int p1)]))
    refine own_by (fun _ k => XS.istore X50.here hx rfl (hb hby at_78) rfl (l' := #[.val (.int p0), .val (.int p1), .val (.int p2), .val (.int p3), .val (.int p4), .val (.int (2 : Int32)), .val (.ref b30), .val (.int p1), .val (.int p1), .unset, .unset]) rfl k) ?_
    show own_Go p e below _ (T50.setTop (mkF m 80 #[.val (.int p0), .val (.int p1), .val (.int p2), .val (.int p3), .val (.int p4), .val (.int (2 : Int32)), .val (.ref b30), .val (.int p1), .val (.int p1), .unset, .unset] []))
    refine own_by (fun _ k => XS.iload X50.here hx rfl (hb hby at_80) rfl k) ?_
    show own_Go p e below _ (T50.setTop (mkF m 82 #[.val (.int p0), .val (.int p1), .val (.int p2), .val (.int p3), .val (.int p4), .val (.int (2 : Int32)), .val (.ref b30), .val (.int p1), .val (.int p1), .unset, .unset] [(.int p1)]))
    refine own_by (fun _ k => XS.iload X50.here hx rfl (hb hby at_82) rfl k) ?_
    show own_Go p e below _ (T50.setTop (mkF m 84 #[.val (.int p0), .val (.int p1), .val (.int p2), .val (.int p3), .val (.int p4), .val (.int (2 : Int32)), .val (.ref b30), .val (.int p1), .val (.int p1), .unset, .unset] [(.int p1), (.int p1)]))
    refine own_by (fun _ k => XS.icmpNo X50.here hx rfl (hb hby at_84) rfl (teq (rfl : p1 = p1)).2 k) ?_
    show own_Go p e below _ (T50.setTop (mkF m 87 #[.val (.int p0), .val (.int p1), .val (.int p2), .val (.int p3), .val (.int p4), .val (.int (2 : Int32)), .val (.ref b30), .val (.int p1), .val (.int p1), .unset, .unset] []))
    refine own_by (fun _ k => XS.iconst X50.here hx rfl (hb hby at_87) k) ?_
    show own_Go p e below _ (T50.setTop (mkF m 88 #[.val (.int p0), .val (.int p1), .val (.int p2), .val (.int p3), .val (.int p4), .val (.int (2 : Int32)), .val (.ref b30), .val (.int p1), .val (.int p1), .unset, .unset] [(.int (1 : Int32))]))
    refine own_by (fun _ k => XS.goto X50.here hx rfl (pc0 := 88) (pc' := 92) rfl (hb hby at_88) (by decide) (by decide) k) ?_
    show own_Go p e below _ (T50.setTop (mkF m 92 #[.val (.int p0), .val (.int p1), .val (.int p2), .val (.int p3), .val (.int p4), .val (.int (2 : Int32)), .val (.ref b30), .val (.int p1), .val (.int p1), .unset, .unset] [(.int (1 : Int32))]))
    refine own_by (fun _ k => XS.istore X50.here hx rfl (hb hby at_92) rfl (l' := #[.val (.int p0), .val (.int p1), .val (.int p2), .val (.int p3), .val (.int p4), .val (.int (2 : Int32)), .val (.ref b30), .val (.int p1), .val (.int p1), .val (.int (1 : Int32)), .unset]) rfl k) ?_
    show own_Go p e below _ (T50.setTop (mkF m 94 #[.val (.int p0), .val (.int p1), .val (.int p2), .val (.int p3), .val (.int p4), .val (.int (2 : Int32)), .val (.ref b30), .val (.int p1), .val (.int p1), .val (.int (1 : Int32)), .unset] []))
    refine own_by (fun _ k => XS.iload X50.here hx rfl (hb hby at_94) rfl k) ?_
    show own_Go p e below _ (T50.setTop (mkF m 96 #[.val (.int p0), .val (.int p1), .val (.int p2), .val (.int p3), .val (.int p4), .val (.int (2 : Int32)), .val (.ref b30), .val (.int p1), .val (.int p1), .val (.int (1 : Int32)), .unset] [(.int (1 : Int32))]))
    refine own_by (fun _ k => XS.ifNo X50.here hx rfl (hb hby at_96) rfl ((if0 _ _).trans (feq (by decide : ¬ ((1 : Int32) = (0 : Int32)))).1) k) ?_
    show own_Go p e below _ (T50.setTop (mkF m 99 #[.val (.int p0), .val (.int p1), .val (.int p2), .val (.int p3), .val (.int p4), .val (.int (2 : Int32)), .val (.ref b30), .val (.int p1), .val (.int p1), .val (.int (1 : Int32)), .unset] []))
    refine own_by (fun _ k => XS.aload X50.here hx rfl (hb hby at_99) rfl rfl k) ?_
    show own_Go p e below _ (T50.setTop (mkF m 101 #[.val (.int p0), .val (.int p1), .val (.int p2), .val (.int p3), .val (.int p4), .val (.int (2 : Int32)), .val (.ref b30), .val (.int p1), .val (.int p1), .val (.int (1 : Int32)), .unset] [(.ref b30)]))
    obtain ⟨cq54, kq54, q54a, q54b, q54c⟩ := isOf hZ rfl F53
    obtain ⟨_, _, ⟨T54, L54, k54, n54⟩, -, X54, ⟨Lc54, hQ54, l54, y54, z54⟩, st54⟩ := X50.virtualBack hx (y := (⟨"com/example/margay/margay/index/IntList", "size", "()I"⟩ : MethodName)) (z := (⟨"com/example/margay/margay/index/IntList", "size", "()I"⟩ : MethodName)) hown (mvT hZ (hw _ (List.mem_of_getElem? (i := 25) rfl))) (mvT hZ (hw _ (List.mem_of_getElem? (i := 26) rfl))) (notFace_of_selects (args := #[]) (mvT hZ (hw _ (List.mem_of_getElem? (i := 28) rfl)))) (mvT hZ (hw _ (List.mem_of_getElem? (i := 28) rfl))) (mvT hZ (hw _ (List.mem_of_getElem? (i := 27) rfl))) (by decide) (backOf (W := 0) (rm5 l Z A0 hw [] b30 (1 : Int32) T50.heap n0 Z50 F52) hZ (hw _ (List.mem_of_getElem? (i := 29) rfl)) (hw _ (List.mem_of_getElem? (i := 3) rfl)) (by decide) (by decide)) q54a q54c (g := (mkF m 101 #[.val (.int p0), .val (.int p1), .val (.int p2), .val (.int p3), .val (.int p4), .val (.int (2 : Int32)), .val (.ref b30), .val (.int p1), .val (.int p1), .val (.int (1 : Int32)), .unset] [(.ref b30)])) rfl (by rw [hml]; rfl) (Steps.refl _) (argsL := []) (rest := []) (lenOf pd_20 rfl) rfl (by show 2 * 0 + _ ≤ _; exact Nat.le_of_eq rfl) (hb hby at_101) (fun _ _ => ⟨rfl, rfl, (by decide : 2 + 0 ≤ _), (by decide : 10 + 0 ≤ _)⟩)
    dsimp only [Pt.U, Pt.locs, Pt.cells, Pt.slots] at X54 l54 y54 z54 st54 hQ54
    subst l54 y54 z54
    obtain ⟨rfl, Nq54, eq54⟩ := hQ54
    have N54 := Fr.app N50 Nq54
    refine own_by (fun _ k => st54.trans k) ?_
    show own_Go p e below _ (T54.setTop (mkF m 104 #[.val (.int p0), .val (.int p1), .val (.int p2), .val (.int p3), .val (.int p4), .val (.int (2 : Int32)), .val (.ref b30), .val (.int p1), .val (.int p1), .val (.int (1 : Int32)), .unset] [(.int (1 : Int32))]))
    refine own_by (fun _ k => XS.iload X54.here hx rfl (hb hby at_104) rfl k) ?_
    show own_Go p e below _ (T54.setTop (mkF m 106 #[.val (.int p0), .val (.int p1), .val (.int p2), .val (.int p3), .val (.int p4), .val (.int (2 : Int32)), .val (.ref b30), .val (.int p1), .val (.int p1), .val (.int (1 : Int32)), .unset] [(.int (2 : Int32)), (.int (1 : Int32))]))
    refine own_by (fun _ k => XS.iconst X54.here hx rfl (hb hby at_106) k) ?_
    show own_Go p e below _ (T54.setTop (mkF m 107 #[.val (.int p0), .val (.int p1), .val (.int p2), .val (.int p3), .val (.int p4), .val (.int (2 : Int32)), .val (.ref b30), .val (.int p1), .val (.int p1), .val (.int (1 : Int32)), .unset] [(.int (1 : Int32)), (.int (2 : Int32)), (.int (1 : Int32))]))
    refine own_by (fun _ k => XS.isub X54.here hx rfl (hb hby at_107) rfl k) ?_
    show own_Go p e below _ (T54.setTop (mkF m 108 #[.val (.int p0), .val (.int p1), .val (.int p2), .val (.int p3), .val (.int p4), .val (.int (2 : Int32)), .val (.ref b30), .val (.int p1), .val (.int p1), .val (.int (1 : Int32)), .unset] [(.int (1 : Int32)), (.int (1 : Int32))]))
    refine own_by (fun _ k => XS.icmpNo X54.here hx rfl (hb hby at_108) rfl (teq (by decide : (1 : Int32) = (1 : Int32))).2 k) ?_
    show own_Go p e below _ (T54.setTop (mkF m 111 #[.val (.int p0), .val (.int p1), .val (.int p2), .val (.int p3), .val (.int p4), .val (.int (2 : Int32)), .val (.ref b30), .val (.int p1), .val (.int p1), .val (.int (1 : Int32)), .unset] []))
    refine own_by (fun _ k => XS.iconst X54.here hx rfl (hb hby at_111) k) ?_
    show own_Go p e below _ (T54.setTop (mkF m 112 #[.val (.int p0), .val (.int p1), .val (.int p2), .val (.int p3), .val (.int p4), .val (.int (2 : Int32)), .val (.ref b30), .val (.int p1), .val (.int p1), .val (.int (1 : Int32)), .unset] [(.int (1 : Int32))]))
    refine own_by (fun _ k => XS.goto X54.here hx rfl (pc0 := 112) (pc' := 116) rfl (hb hby at_112) (by decide) (by decide) k) ?_
    show own_Go p e below _ (T54.setTop (mkF m 116 #[.val (.int p0), .val (.int p1), .val (.int p2), .val (.int p3), .val (.int p4), .val (.int (2 : Int32)), .val (.ref b30), .val (.int p1), .val (.int p1), .val (.int (1 : Int32)), .unset] [(.int (1 : Int32))]))
    refine own_by (fun _ k => XS.istore X54.here hx rfl (hb hby at_116) rfl (l' := #[.val (.int p0), .val (.int p1), .val (.int p2), .val (.int p3), .val (.int p4), .val (.int (2 : Int32)), .val (.ref b30), .val (.int p1), .val (.int p1), .val (.int (1 : Int32)), .unset]) rfl k) ?_
    show own_Go p e below _ (T54.setTop (mkF m 118 #[.val (.int p0), .val (.int p1), .val (.int p2), .val (.int p3), .val (.int p4), .val (.int (2 : Int32)), .val (.ref b30), .val (.int p1), .val (.int p1), .val (.int (1 : Int32)), .unset] []))
    refine own_by (fun _ k => XS.iload X54.here hx rfl (hb hby at_118) rfl k) ?_
    show own_Go p e below _ (T54.setTop (mkF m 120 #[.val (.int p0), .val (.int p1), .val (.int p2), .val (.int p3), .val (.int p4), .val (.int (2 : Int32)), .val (.ref b30), .val (.int p1), .val (.int p1), .val (.int (1 : Int32)), .unset] [(.int (2 : Int32))]))
    refine own_by (fun _ k => XS.iconst X54.here hx rfl (hb hby at_120) k) ?_
    show own_Go p e below _ (T54.setTop (mkF m 121 #[.val (.int p0), .val (.int p1), .val (.int p2), .val (.int p3), .val (.int p4), .val (.int (2 : Int32)), .val (.ref b30), .val (.int p1), .val (.int p1), .val (.int (1 : Int32)), .unset] [(.int (2 : Int32)), (.int (2 : Int32))]))
    refine own_by (fun _ k => XS.icmpNo X54.here hx rfl (hb hby at_121) rfl (flt (by decide : ¬ ((2 : Int32) < (2 : Int32)))).1 k) ?_
    show own_Go p e below _ (T54.setTop (mkF m 124 #[.val (.int p0), .val (.int p1), .val (.int p2), .val (.int p3), .val (.int p4), .val (.int (2 : Int32)), .val (.ref b30), .val (.int p1), .val (.int p1), .val (.int (1 : Int32)), .unset] []))
    refine own_by (fun _ k => XS.iload X54.here hx rfl (hb hby at_124) rfl k) ?_
    show own_Go p e below _ (T54.setTop (mkF m 126 #[.val (.int p0), .val (.int p1), .val (.int p2), .val (.int p3), .val (.int p4), .val (.int (2 : Int32)), .val (.ref b30), .val (.int p1), .val (.int p1), .val (.int (1 : Int32)), .unset] [(.int (2 : Int32))]))
    refine own_by (fun _ k => XS.iconst X54.here hx rfl (hb hby at_126) k) ?_
    show own_Go p e below _ (T54.setTop (mkF m 127 #[.val (.int p0), .val (.int p1), .val (.int p2), .val (.int p3), .val (.int p4), .val (.int (2 : Int32)), .val (.ref b30), .val (.int p1), .val (.int p1), .val (.int (1 : Int32)), .unset] [(.int (2 : Int32)), (.int (2 : Int32))]))
    refine own_by (fun _ k => XS.icmpNo X54.here hx rfl (hb hby at_127) rfl (teq (by decide : (2 : Int32) = (2 : Int32))).2 k) ?_
    show own_Go p e below _ (T54.setTop (mkF m 130 #[.val (.int p0), .val (.int p1), .val (.int p2), .val (.int p3), .val (.int p4), .val (.int (2 : Int32)), .val (.ref b30), .val (.int p1), .val (.int p1), .val (.int (1 : Int32)), .unset] []))
    refine own_by (fun _ k => XS.iloadN X54.here hx rfl (hb hby at_130) rfl k) ?_
    show own_Go p e below _ (T54.setTop (mkF m 131 #[.val (.int p0), .val (.int p1), .val (.int p2), .val (.int p3), .val (.int p4), .val (.int (2 : Int32)), .val (.ref b30), .val (.int p1), .val (.int p1), .val (.int (1 : Int32)), .unset] [(.int p0)]))
    refine own_by (fun _ k => XS.goto X54.here hx rfl (pc0 := 131) (pc' := 135) rfl (hb hby at_131) (by decide) (by decide) k) ?_
    show own_Go p e below _ (T54.setTop (mkF m 135 #[.val (.int p0), .val (.int p1), .val (.int p2), .val (.int p3), .val (.int p4), .val (.int (2 : Int32)), .val (.ref b30), .val (.int p1), .val (.int p1), .val (.int (1 : Int32)), .unset] [(.int p0)]))
    refine own_by (fun _ k => XS.istore X54.here hx rfl (hb hby at_135) rfl (l' := #[.val (.int p0), .val (.int p1), .val (.int p2), .val (.int p3), .val (.int p4), .val (.int (2 : Int32)), .val (.ref b30), .val (.int p1), .val (.int p1), .val (.int (1 : Int32)), .val (.int p0)]) rfl k) ?_
    show own_Go p e below _ (T54.setTop (mkF m 137 #[.val (.int p0), .val (.int p1), .val (.int p2), .val (.int p3), .val (.int p4), .val (.int (2 : Int32)), .val (.ref b30), .val (.int p1), .val (.int p1), .val (.int (1 : Int32)), .val (.int p0)] []))
    refine own_by (fun _ k => XS.iload X54.here hx rfl (hb hby at_137) rfl k) ?_
    show own_Go p e below _ (T54.setTop (mkF m 139 #[.val (.int p0), .val (.int p1), .val (.int p2), .val (.int p3), .val (.int p4), .val (.int (2 : Int32)), .val (.ref b30), .val (.int p1), .val (.int p1), .val (.int (1 : Int32)), .val (.int p0)] [(.int (1 : Int32))]))
    refine own_by (fun _ k => XS.ifNo X54.here hx rfl (hb hby at_139) rfl ((if0 _ _).trans (feq (by decide : ¬ ((1 : Int32) = (0 : Int32)))).1) k) ?_
    show own_Go p e below _ (T54.setTop (mkF m 142 #[.val (.int p0), .val (.int p1), .val (.int p2), .val (.int p3), .val (.int p4), .val (.int (2 : Int32)), .val (.ref b30), .val (.int p1), .val (.int p1), .val (.int (1 : Int32)), .val (.int p0)] []))
    refine own_by (fun _ k => XS.aload X54.here hx rfl (hb hby at_142) rfl rfl k) ?_
    show own_Go p e below _ (T54.setTop (mkF m 144 #[.val (.int p0), .val (.int p1), .val (.int p2), .val (.int p3), .val (.int p4), .val (.int (2 : Int32)), .val (.ref b30), .val (.int p1), .val (.int p1), .val (.int (1 : Int32)), .val (.int p0)] [(.ref b30)]))
    have F55 : own_Arf Z T50.heap b32 b33 .int (8 : Int32) (fun i => .int ((own_upd (own_upd (fun _ => (0 : Int32)) 0 p0) 1 p1) i)) := (F49.keep Kq50 (ninS (Ne.symm (Nat.ne_of_lt (Nat.lt_of_lt_of_le (A30).lt hp38))) nin0))
    obtain ⟨cq56, kq56, q56a, q56b, q56c⟩ := isOf hZ eq54 F53
    obtain ⟨_, _, ⟨T56, L56, k56, n56⟩, -, X56, ⟨Lc56, hQ56, l56, y56, z56⟩, st56⟩ := X54.virtualBack hx (y := (⟨"com/example/margay/margay/index/IntList", "last", "()I"⟩ : MethodName)) (z := (⟨"com/example/margay/margay/index/IntList", "last", "()I"⟩ : MethodName)) hown (mvT hZ (hw _ (List.mem_of_getElem? (i := 35) rfl))) (mvT hZ (hw _ (List.mem_of_getElem? (i := 36) rfl))) (notFace_of_selects (args := #[]) (mvT hZ (hw _ (List.mem_of_getElem? (i := 38) rfl)))) (mvT hZ (hw _ (List.mem_of_getElem? (i := 38) rfl))) (mvT hZ (hw _ (List.mem_of_getElem? (i := 37) rfl))) (by decide) (backOf (W := 0) (rm7 l Z A0 hw [] b30 b32 (1 : Int32) b33 (8 : Int32) (own_upd (own_upd (fun _ => (0 : Int32)) 0 p0) 1 p1) T50.heap n0 Z50 F51 F52 F55 (by decide)) hZ (hw _ (List.mem_of_getElem? (i := 39) rfl)) (hw _ (List.mem_of_getElem? (i := 3) rfl)) (by decide) (by decide)) q56a q56c (g := (mkF m 144 #[.val (.int p0), .val (.int p1), .val (.int p2), .val (.int p3), .val (.int p4), .val (.int (2 : Int32)), .val (.ref b30), .val (.int p1), .val (.int p1), .val (.int (1 : Int32)), .val (.int p0)] [(.ref b30)])) rfl (by rw [hml]; rfl) (Steps.refl _) (argsL := []) (rest := []) (lenOf pd_20 rfl) rfl (by show 2 * 0 + _ ≤ _; exact Nat.le_of_eq rfl) (hb hby at_144) (fun _ _ => ⟨rfl, eq54, (by decide : 2 + 0 ≤ _), (by decide : 10 + 0 ≤ _)⟩)
    dsimp only [Pt.U, Pt.locs, Pt.cells, Pt.slots] at X56 l56 y56 z56 st56 hQ56
    subst l56 y56 z56
    obtain ⟨rfl, Nq56, eq56⟩ := hQ56
    have N56 := Fr.app N54 Nq56
    refine own_by (fun _ k => st56.trans k) ?_
    show own_Go p e below _ (T56.setTop (mkF m 147 #[.val (.int p0), .val (.int p1), .val (.int p2), .val (.int p3), .val (.int p4), .val (.int (2 : Int32)), .val (.ref b30), .val (.int p1), .val (.int p1), .val (.int (1 : Int32)), .val (.int p0)] [(.int p0)]))
    refine own_by (fun _ k => XS.iload X56.here hx rfl (hb hby at_147) rfl k) ?_
    show own_Go p e below _ (T56.setTop (mkF m 149 #[.val (.int p0), .val (.int p1), .val (.int p2), .val (.int p3), .val (.int p4), .val (.int (2 : Int32)), .val (.ref b30), .val (.int p1), .val (.int p1), .val (.int (1 : Int32)), .val (.int p0)] [(.int p0), (.int p0)]))
    refine own_by (fun _ k => XS.icmpNo X56.here hx rfl (hb hby at_149) rfl (teq (rfl : p0 = p0)).2 k) ?_
    show own_Go p e below _ (T56.setTop (mkF m 152 #[.val (.int p0), .val (.int p1), .val (.int p2), .val (.int p3), .val (.int p4), .val (.int (2 : Int32)), .val (.ref b30), .val (.int p1), .val (.int p1), .val (.int (1 : Int32)), .val (.int p0)] []))
    refine own_by (fun _ k => XS.iconst X56.here hx rfl (hb hby at_152) k) ?_
    show own_Go p e below _ (T56.setTop (mkF m 153 #[.val (.int p0), .val (.int p1), .val (.int p2), .val (.int p3), .val (.int p4), .val (.int (2 : Int32)), .val (.ref b30), .val (.int p1), .val (.int p1), .val (.int (1 : Int32)), .val (.int p0)] [(.int (1 : Int32))]))
    refine own_by (fun _ k => XS.goto X56.here hx rfl (pc0 := 153) (pc' := 157) rfl (hb hby at_153) (by decide) (by decide) k) ?_
    show own_Go p e below _ (T56.setTop (mkF m 157 #[.val (.int p0), .val (.int p1), .val (.int p2), .val (.int p3), .val (.int p4), .val (.int (2 : Int32)), .val (.ref b30), .val (.int p1), .val (.int p1), .val (.int (1 : Int32)), .val (.int p0)] [(.int (1 : Int32))]))
    refine own_by (fun _ k => XS.istore X56.here hx rfl (hb hby at_157) rfl (l' := #[.val (.int p0), .val (.int p1), .val (.int p2), .val (.int p3), .val (.int p4), .val (.int (2 : Int32)), .val (.ref b30), .val (.int p1), .val (.int p1), .val (.int (1 : Int32)), .val (.int p0)]) rfl k) ?_
    show own_Go p e below _ (T56.setTop (mkF m 159 #[.val (.int p0), .val (.int p1), .val (.int p2), .val (.int p3), .val (.int p4), .val (.int (2 : Int32)), .val (.ref b30), .val (.int p1), .val (.int p1), .val (.int (1 : Int32)), .val (.int p0)] []))
    refine own_by (fun _ k => XS.aload X56.here hx rfl (hb hby at_159) rfl rfl k) ?_
    show own_Go p e below _ (T56.setTop (mkF m 161 #[.val (.int p0), .val (.int p1), .val (.int p2), .val (.int p3), .val (.int p4), .val (.int (2 : Int32)), .val (.ref b30), .val (.int p1), .val (.int p1), .val (.int (1 : Int32)), .val (.int p0)] [(.ref b30)]))
    refine own_by (fun _ k => XS.iloadN X56.here hx rfl (hb hby at_161) rfl k) ?_
    show own_Go p e below _ (T56.setTop (mkF m 162 #[.val (.int p0), .val (.int p1), .val (.int p2), .val (.int p3), .val (.int p4), .val (.int (2 : Int32)), .val (.ref b30), .val (.int p1), .val (.int p1), .val (.int (1 : Int32)), .val (.int p0)] [(.int p3), (.ref b30)]))
    obtain ⟨cq57, kq57, q57a, q57b, q57c⟩ := isOf hZ eq56 F53
    obtain ⟨_, _, ⟨T57, L57, k57, n57⟩, -, X57, ⟨Lc57, hQ57, l57, y57, z57⟩, st57⟩ := X56.virtualBack hx (y := (⟨"com/example/margay/margay/index/IntList", "add", "(I)V"⟩ : MethodName)) (z := (⟨"com/example/margay/margay/index/IntList", "add", "(I)V"⟩ : MethodName)) hown (mvT hZ (hw _ (List.mem_of_getElem? (i := 13) rfl))) (mvT hZ (hw _ (List.mem_of_getElem? (i := 14) rfl))) (notFace_of_selects (args := #[]) (mvT hZ (hw _ (List.mem_of_getElem? (i := 16) rfl)))) (mvT hZ (hw _ (List.mem_of_getElem? (i := 16) rfl))) (mvT hZ (hw _ (List.mem_of_getElem? (i := 15) rfl))) (by decide) (backOf (W := 0) (rm3 l Z A0 hw [] b30 p3 (1 : Int32) b32 b33 (8 : Int32) (own_upd (own_upd (fun _ => (0 : Int32)) 0 p0) 1 p1) T50.heap n0 Z50 F52 F51 F55 (by decide) F53 ge_b30 (by decide) hp37) hZ (hw _ (List.mem_of_getElem? (i := 17) rfl)) (hw _ (List.mem_of_getElem? (i := 3) rfl)) (by decide) (by decide)) q57a q57c (g := (mkF m 162 #[.val (.int p0), .val (.int p1), .val (.int p2), .val (.int p3), .val (.int p4), .val (.int (2 : Int32)), .val (.ref b30), .val (.int p1), .val (.int p1), .val (.int (1 : Int32)), .val (.int p0)] [(.int p3), (.ref b30)])) rfl (by rw [hml]; rfl) (Steps.refl _) (argsL := [(.int p3)]) (rest := []) (lenOf pd_13 rfl) rfl (by show 2 * 0 + _ ≤ _; exact Nat.le_of_eq rfl) (hb hby at_162) (fun _ _ => ⟨rfl, eq56, (by decide : 2 + 0 ≤ _), (by decide : 10 + 0 ≤ _)⟩)
    dsimp only [Pt.U, Pt.locs, Pt.cells, Pt.slots] at X57 l57 y57 z57 st57 hQ57
    subst l57 y57 z57
    obtain ⟨rfl, Nq57, Kq57, F58, F59, F60, F61⟩ := hQ57
    have N57 := Fr.app N56 Nq57
    have K57 : Keep h0 T57.heap [] := K50.trans Kq57 ((allS (Or.inr sz_b30) (allS (Or.inr sz_b32) all0)))
    have Z57 : n0 ≤ T57.heap.size := Nat.le_trans Z50 Kq57.1
    refine own_by (fun _ k => st57.trans k) ?_
    show own_Go p e below _ (T57.setTop (mkF m 165 #[.val (.int p0), .val (.int p1), .val (.int p2), .val (.int p3), .val (.int p4), .val (.int (2 : Int32)), .val (.ref b30), .val (.int p1), .val (.int p1), .val (.int (1 : Int32)), .val (.int p0)] []))
    refine own_by (fun _ k => XS.iload X57.here hx rfl (hb hby at_165) rfl k) ?_
    show own_Go p e below _ (T57.setTop (mkF m 167 #[.val (.int p0), .val (.int p1), .val (.int p2), .val (.int p3), .val (.int p4), .val (.int (2 : Int32)), .val (.ref b30), .val (.int p1), .val (.int p1), .val (.int (1 : Int32)), .val (.int p0)] [(.int (1 : Int32))]))
    refine own_by (fun _ k => XS.ifNo X57.here hx rfl (hb hby at_167) rfl ((if0 _ _).trans (feq (by decide : ¬ ((1 : Int32) = (0 : Int32)))).1) k) ?_
    show own_Go p e below _ (T57.setTop (mkF m 170 #[.val (.int p0), .val (.int p1), .val (.int p2), .val (.int p3), .val (.int p4), .val (.int (2 : Int32)), .val (.ref b30), .val (.int p1), .val (.int p1), .val (.int (1 : Int32)), .val (.int p0)] []))
    refine own_by (fun _ k => XS.aload X57.here hx rfl (hb hby at_170) rfl rfl k) ?_
    show own_Go p e below _ (T57.setTop (mkF m 172 #[.val (.int p0), .val (.int p1), .val (.int p2), .val (.int p3), .val (.int p4), .val (.int (2 : Int32)), .val (.ref b30), .val (.int p1), .val (.int p1), .val (.int (1 : Int32)), .val (.int p0)] [(.ref b30)]))
    obtain ⟨cq62, kq62, q62a, q62b, q62c⟩ := isOf hZ rfl F60
    obtain ⟨_, _, ⟨T62, L62, k62, n62⟩, -, X62, ⟨Lc62, hQ62, l62, y62, z62⟩, st62⟩ := X57.virtualBack hx (y := (⟨"com/example/margay/margay/index/IntList", "size", "()I"⟩ : MethodName)) (z := (⟨"com/example/margay/margay/index/IntList", "size", "()I"⟩ : MethodName)) hown (mvT hZ (hw _ (List.mem_of_getElem? (i := 25) rfl))) (mvT hZ (hw _ (List.mem_of_getElem? (i := 26) rfl))) (notFace_of_selects (args := #[]) (mvT hZ (hw _ (List.mem_of_getElem? (i := 28) rfl)))) (mvT hZ (hw _ (List.mem_of_getElem? (i := 28) rfl))) (mvT hZ (hw _ (List.mem_of_getElem? (i := 27) rfl))) (by decide) (backOf (W := 0) (rm5 l Z A0 hw [] b30 (2 : Int32) T57.heap n0 Z57 F58) hZ (hw _ (List.mem_of_getElem? (i := 29) rfl)) (hw _ (List.mem_of_getElem? (i := 3) rfl)) (by decide) (by decide)) q62a q62c (g := (mkF m 172 #[.val (.int p0), .val (.int p1), .val (.int p2), .val (.int p3), .val (.int p4), .val (.int (2 : Int32)), .val (.ref b30), .val (.int p1), .val (.int p1), .val (.int (1 : Int32)), .val (.int p0)] [(.ref b30)])) rfl (by rw [hml]; rfl) (Steps.refl _) (argsL := []) (rest := []) (lenOf pd_20 rfl) rfl (by show 2 * 0 + _ ≤ _; exact Nat.le_of_eq rfl) (hb hby at_172) (fun _ _ => ⟨rfl, rfl, (by decide : 2 + 0 ≤ _), (by decide : 10 + 0 ≤ _)⟩)
    dsimp only [Pt.U, Pt.locs, Pt.cells, Pt.slots] at X62 l62 y62 z62 st62 hQ62
    subst l62 y62 z62
    obtain ⟨rfl, Nq62, eq62⟩ := hQ62
    have N62 := Fr.app N57 Nq62
    refine own_by (fun _ k => st62.trans k) ?_
    show own_Go p e below _ (T62.setTop (mkF m 175 #[.val (.int p0), .val (.int p1), .val (.int p2), .val (.int p3), .val (.int p4), .val (.int (2 : Int32)), .val (.ref b30), .val (.int p1), .val (.int p1), .val (.int (1 : Int32)), .val (.int p0)] [(.int (2 : Int32))]))
    refine own_by (fun _ k => XS.iload X62.here hx rfl (hb hby at_175) rfl k) ?_
    show own_Go p e below _ (T62.setTop (mkF m 177 #[.val (.int p0), .val (.int p1), .val (.int p2), .val (.int p3), .val (.int p4), .val (.int (2 : Int32)), .val (.ref b30), .val (.int p1), .val (.int p1), .val (.int (1 : Int32)), .val (.int p0)] [(.int (2 : Int32)), (.int (2 : Int32))]))
    refine own_by (fun _ k => XS.icmpNo X62.here hx rfl (hb hby at_177) rfl (teq (by decide : (2 : Int32) = (2 : Int32))).2 k) ?_
    show own_Go p e below _ (T62.setTop (mkF m 180 #[.val (.int p0), .val (.int p1), .val (.int p2), .val (.int p3), .val (.int p4), .val (.int (2 : Int32)), .val (.ref b30), .val (.int p1), .val (.int p1), .val (.int (1 : Int32)), .val (.int p0)] []))
    refine own_by (fun _ k => XS.iconst X62.here hx rfl (hb hby at_180) k) ?_
    show own_Go p e below _ (T62.setTop (mkF m 181 #[.val (.int p0), .val (.int p1), .val (.int p2), .val (.int p3), .val (.int p4), .val (.int (2 : Int32)), .val (.ref b30), .val (.int p1), .val (.int p1), .val (.int (1 : Int32)), .val (.int p0)] [(.int (1 : Int32))]))
    refine own_by (fun _ k => XS.goto X62.here hx rfl (pc0 := 181) (pc' := 185) rfl (hb hby at_181) (by decide) (by decide) k) ?_
    show own_Go p e below _ (T62.setTop (mkF m 185 #[.val (.int p0), .val (.int p1), .val (.int p2), .val (.int p3), .val (.int p4), .val (.int (2 : Int32)), .val (.ref b30), .val (.int p1), .val (.int p1), .val (.int (1 : Int32)), .val (.int p0)] [(.int (1 : Int32))]))
    refine own_by (fun _ k => XS.istore X62.here hx rfl (hb hby at_185) rfl (l' := #[.val (.int p0), .val (.int p1), .val (.int p2), .val (.int p3), .val (.int p4), .val (.int (2 : Int32)), .val (.ref b30), .val (.int p1), .val (.int p1), .val (.int (1 : Int32)), .val (.int p0)]) rfl k) ?_
    show own_Go p e below _ (T62.setTop (mkF m 187 #[.val (.int p0), .val (.int p1), .val (.int p2), .val (.int p3), .val (.int p4), .val (.int (2 : Int32)), .val (.ref b30), .val (.int p1), .val (.int p1), .val (.int (1 : Int32)), .val (.int p0)] []))
    refine own_by (fun _ k => XS.iload X62.here hx rfl (hb hby at_187) rfl k) ?_
    show own_Go p e below _ (T62.setTop (mkF m 189 #[.val (.int p0), .val (.int p1), .val (.int p2), .val (.int p3), .val (.int p4), .val (.int (2 : Int32)), .val (.ref b30), .val (.int p1), .val (.int p1), .val (.int (1 : Int32)), .val (.int p0)] [(.int (1 : Int32))]))
    refine own_by (fun _ k => XS.ifNo X62.here hx rfl (hb hby at_189) rfl ((if0 _ _).trans (feq (by decide : ¬ ((1 : Int32) = (0 : Int32)))).1) k) ?_
    show own_Go p e below _ (T62.setTop (mkF m 192 #[.val (.int p0), .val (.int p1), .val (.int p2), .val (.int p3), .val (.int p4), .val (.int (2 : Int32)), .val (.ref b30), .val (.int p1), .val (.int p1), .val (.int (1 : Int32)), .val (.int p0)] []))
    refine own_by (fun _ k => XS.aload X62.here hx rfl (hb hby at_192) rfl rfl k) ?_
    show own_Go p e below _ (T62.setTop (mkF m 194 #[.val (.int p0), .val (.int p1), .val (.int p2), .val (.int p3), .val (.int p4), .val (.int (2 : Int32)), .val (.ref b30), .val (.int p1), .val (.int p1), .val (.int (1 : Int32)), .val (.int p0)] [(.ref b30)]))
    refine own_by (fun _ k => XS.iload X62.here hx rfl (hb hby at_194) rfl k) ?_
    show own_Go p e below _ (T62.setTop (mkF m 196 #[.val (.int p0), .val (.int p1), .val (.int p2), .val (.int p3), .val (.int p4), .val (.int (2 : Int32)), .val (.ref b30), .val (.int p1), .val (.int p1), .val (.int (1 : Int32)), .val (.int p0)] [(.int (2 : Int32)), (.ref b30)]))
    refine own_by (fun _ k => XS.iconst X62.here hx rfl (hb hby at_196) k) ?_
    show own_Go p e below _ (T62.setTop (mkF m 197 #[.val (.int p0), .val (.int p1), .val (.int p2), .val (.int p3), .val (.int p4), .val (.int (2 : Int32)), .val (.ref b30), .val (.int p1), .val (.int p1), .val (.int (1 : Int32)), .val (.int p0)] [(.int (1 : Int32)), (.int (2 : Int32)), (.ref b30)]))
    refine own_by (fun _ k => XS.isub X62.here hx rfl (hb hby at_197) rfl k) ?_
    show own_Go p e below _ (T62.setTop (mkF m 198 #[.val (.int p0), .val (.int p1), .val (.int p2), .val (.int p3), .val (.int p4), .val (.int (2 : Int32)), .val (.ref b30), .val (.int p1), .val (.int p1), .val (.int (1 : Int32)), .val (.int p0)] [(.int (1 : Int32)), (.ref b30)]))
    obtain ⟨cq63, kq63, q63a, q63b, q63c⟩ := isOf hZ eq62 F60
    obtain ⟨_, _, ⟨T63, L63, k63, n63⟩, -, X63, ⟨Lc63, hQ63, l63, y63, z63⟩, st63⟩ := X62.virtualBack hx (y := (⟨"com/example/margay/margay/index/IntList", "get", "(I)I"⟩ : MethodName)) (z := (⟨"com/example/margay/margay/index/IntList", "get", "(I)I"⟩ : MethodName)) hown (mvT hZ (hw _ (List.mem_of_getElem? (i := 30) rfl))) (mvT hZ (hw _ (List.mem_of_getElem? (i := 31) rfl))) (notFace_of_selects (args := #[]) (mvT hZ (hw _ (List.mem_of_getElem? (i := 33) rfl)))) (mvT hZ (hw _ (List.mem_of_getElem? (i := 33) rfl))) (mvT hZ (hw _ (List.mem_of_getElem? (i := 32) rfl))) (by decide) (backOf (W := 0) (rm6 l Z A0 hw [] b30 (1 : Int32) b32 b33 (8 : Int32) (own_upd (own_upd (own_upd (fun _ => (0 : Int32)) 0 p0) 1 p1) 1 p3) T57.heap n0 Z57 F59 F61 (by decide)) hZ (hw _ (List.mem_of_getElem? (i := 34) rfl)) (hw _ (List.mem_of_getElem? (i := 3) rfl)) (by decide) (by decide)) q63a q63c (g := (mkF m 198 #[.val (.int p0), .val (.int p1), .val (.int p2), .val (.int p3), .val (.int p4), .val (.int (2 : Int32)), .val (.ref b30), .val (.int p1), .val (.int p1), .val (.int (1 : Int32)), .val (.int p0)] [(.int (1 : Int32)), (.ref b30)])) rfl (by rw [hml]; rfl) (Steps.refl _) (argsL := [(.int (1 : Int32))]) (rest := []) (lenOf pd_30 rfl) rfl (by show 2 * 0 + _ ≤ _; exact Nat.le_of_eq rfl) (hb hby at_198) (fun _ _ => ⟨rfl, eq62, (by decide : 2 + 0 ≤ _), (by decide : 10 + 0 ≤ _)⟩)
    dsimp only [Pt.U, Pt.locs, Pt.cells, Pt.slots] at X63 l63 y63 z63 st63 hQ63
    subst l63 y63 z63
    obtain ⟨rfl, Nq63, eq63⟩ := hQ63
    have N63 := Fr.app N62 Nq63
    refine own_by (fun _ k => st63.trans k) ?_
    show own_Go p e below _ (T63.setTop (mkF m 201 #[.val (.int p0), .val (.int p1), .val (.int p2), .val (.int p3), .val (.int p4), .val (.int (2 : Int32)), .val (.ref b30), .val (.int p1), .val (.int p1), .val (.int (1 : Int32)), .val (.int p0)] [(.int p3)]))
    refine own_by (fun _ k => XS.iloadN X63.here hx rfl (hb hby at_201) rfl k) ?_
    show own_Go p e below _ (T63.setTop (mkF m 202 #[.val (.int p0), .val (.int p1), .val (.int p2), .val (.int p3), .val (.int p4), .val (.int (2 : Int32)), .val (.ref b30), .val (.int p1), .val (.int p1), .val (.int (1 : Int32)), .val (.int p0)] [(.int p3), (.int p3)]))
    refine own_by (fun _ k => XS.icmpNo X63.here hx rfl (hb hby at_202) rfl (teq (rfl : p3 = p3)).2 k) ?_
    show own_Go p e below _ (T63.setTop (mkF m 205 #[.val (.int p0), .val (.int p1), .val (.int p2), .val (.int p3), .val (.int p4), .val (.int (2 : Int32)), .val (.ref b30), .val (.int p1), .val (.int p1), .val (.int (1 : Int32)), .val (.int p0)] []))
    refine own_by (fun _ k => XS.iconst X63.here hx rfl (hb hby at_205) k) ?_
    show own_Go p e below _ (T63.setTop (mkF m 206 #[.val (.int p0), .val (.int p1), .val (.int p2), .val (.int p3), .val (.int p4), .val (.int (2 : Int32)), .val (.ref b30), .val (.int p1), .val (.int p1), .val (.int (1 : Int32)), .val (.int p0)] [(.int (1 : Int32))]))
    refine own_by (fun _ k => XS.goto X63.here hx rfl (pc0 := 206) (pc' := 210) rfl (hb hby at_206) (by decide) (by decide) k) ?_
    show own_Go p e below _ (T63.setTop (mkF m 210 #[.val (.int p0), .val (.int p1), .val (.int p2), .val (.int p3), .val (.int p4), .val (.int (2 : Int32)), .val (.ref b30), .val (.int p1), .val (.int p1), .val (.int (1 : Int32)), .val (.int p0)] [(.int (1 : Int32))]))
    refine own_by (fun _ k => XS.istore X63.here hx rfl (hb hby at_210) rfl (l' := #[.val (.int p0), .val (.int p1), .val (.int p2), .val (.int p3), .val (.int p4), .val (.int (2 : Int32)), .val (.ref b30), .val (.int p1), .val (.int p1), .val (.int (1 : Int32)), .val (.int p0)]) rfl k) ?_
    show own_Go p e below _ (T63.setTop (mkF m 212 #[.val (.int p0), .val (.int p1), .val (.int p2), .val (.int p3), .val (.int p4), .val (.int (2 : Int32)), .val (.ref b30), .val (.int p1), .val (.int p1), .val (.int (1 : Int32)), .val (.int p0)] []))
    refine own_by (fun _ k => XS.iload X63.here hx rfl (hb hby at_212) rfl k) ?_
    show own_Go p e below _ (T63.setTop (mkF m 214 #[.val (.int p0), .val (.int p1), .val (.int p2), .val (.int p3), .val (.int p4), .val (.int (2 : Int32)), .val (.ref b30), .val (.int p1), .val (.int p1), .val (.int (1 : Int32)), .val (.int p0)] [(.int (1 : Int32))]))
    exact own_retN X63 hx (t := .boolean) Bd.returns (by simp) (hb hby at_214) hlk eq63 ⟨rfl, N63⟩ (by decide) (by decide)
  · skip
    show own_Go p e below _ (s₁.setTop (mkF m 11 #[.val (.int p0), .val (.int p1), .val (.int p2), .val (.int p3), .val (.int p4), .val (.int (3 : Int32)), .unset, .unset, .unset, .unset, .unset] []))
    obtain ⟨T64, h64, X64, e64, E64, A64, D64, -, st64⟩ := newO X0 hx hZ hown (hw _ (List.mem_of_getElem? (i := 1) rfl)) (hw _ (List.mem_of_getElem? (i := 2) rfl)) (hw _ (List.mem_of_getElem? (i := 3) rfl)) e0 (g := (mkF m 11 #[.val (.int p0), .val (.int p1), .val (.int p2), .val (.int p3), .val (.int p4), .val (.int (3 : Int32)), .unset, .unset, .unset, .unset, .unset] [])) rfl (hb hby at_11) (by decide) (by decide)
    obtain ⟨b64, g64⟩ : ∃ z, z = h0.size := ⟨_, rfl⟩
    have ge_b64 : n0 ≤ b64 := Nat.le_trans Z0 (Nat.le_of_eq g64.symm)
    have sz_b64 : h0.size ≤ b64 := Nat.le_trans (Keep.refl h0 []).1 (Nat.le_of_eq g64.symm)
    have K64 : Keep h0 h64 [] := (Keep.refl h0 []).ext E64
    have Z64 : n0 ≤ h64.size := Nat.le_trans Z0 E64.1
    rw [← g64] at A64 D64 st64
    have F_values_b64 : Fld Z h64 b64 "com/example/margay/margay/index/IntList" "values" "[I" .null := D64 (Or.inl (hw _ (List.mem_of_getElem? (i := 12) rfl))) (ty := (.array .int)) (by decide)
    have F_size_b64 : Fld Z h64 b64 "com/example/margay/margay/index/IntList" "size" "I" (.int (0 : Int32)) := D64 (Or.inl (hw _ (List.mem_of_getElem? (i := 19) rfl))) (ty := .int) (by decide)
    refine own_by st64 ?_
    show own_Go p e below _ (T64.setTop (mkF m 14 #[.val (.int p0), .val (.int p1), .val (.int p2), .val (.int p3), .val (.int p4), .val (.int (3 : Int32)), .unset, .unset, .unset, .unset, .unset] [(.ref b64)]))
    refine own_by (fun _ k => XS.dup X64.here hx rfl (hb hby at_14) rfl rfl k) ?_
    show own_Go p e below _ (T64.setTop (mkF m 15 #[.val (.int p0), .val (.int p1), .val (.int p2), .val (.int p3), .val (.int p4), .val (.int (3 : Int32)), .unset, .unset, .unset, .unset, .unset] [(.ref b64), (.ref b64)]))
    obtain ⟨_, _, ⟨T65, L65, k65, n65⟩, -, X65, ⟨Lc65, hQ65, l65, y65, z65⟩, st65⟩ := X64.specialBack hx (y := (⟨"com/example/margay/margay/index/IntList", "<init>", "()V"⟩ : MethodName)) rfl hown (mvT hZ (hw _ (List.mem_of_getElem? (i := 4) rfl))) (mvT hZ (hw _ (List.mem_of_getElem? (i := 5) rfl))) (mvT hZ (hw _ (List.mem_of_getElem? (i := 6) rfl))) (by decide) (backOf (W := 1) (rm1 l Z A0 hw [] b64 (.null) (0 : Int32) h64 n0 Z64 A64 F_values_b64 ge_b64 F_size_b64) hZ (hw _ (List.mem_of_getElem? (i := 6) rfl)) (hw _ (List.mem_of_getElem? (i := 3) rfl)) (by decide) (by decide)) (g := (mkF m 15 #[.val (.int p0), .val (.int p1), .val (.int p2), .val (.int p3), .val (.int p4), .val (.int (3 : Int32)), .unset, .unset, .unset, .unset, .unset] [(.ref b64), (.ref b64)])) rfl (by rw [hml]; rfl) (Steps.refl _) (a := b64) (argsL := []) (rest := [(.ref b64)]) (lenOf pd_4 rfl) rfl (by show 2 * 0 + _ ≤ _; exact Nat.le_of_eq rfl) (hb hby at_15) (fun _ _ => ⟨rfl, e64, (by decide : 1 + 1 ≤ _), (by decide : 2 + 8 ≤ _)⟩)
    dsimp only [Pt.U, Pt.locs, Pt.cells, Pt.slots] at X65 l65 y65 z65 st65 hQ65
    subst l65 y65 z65
    obtain ⟨b66, b67, rfl, Nq65, Kq65, F68, F69, F70, hp71, hp72, F73⟩ := hQ65
    have N65 := Fr.app N0 Nq65
    have K65 : Keep h0 T65.heap [] := K64.trans Kq65 ((allS (Or.inr sz_b64) all0))
    have Z65 : n0 ≤ T65.heap.size := Nat.le_trans Z64 Kq65.1
    have sz_b66 : h0.size ≤ b66 := Nat.le_trans K64.1 hp72
    refine own_by (fun _ k => st65.trans k) ?_
    show own_Go p e below _ (T65.setTop (mkF m 18 #[.val (.int p0), .val (.int p1), .val (.int p2), .val (.int p3), .val (.int p4), .val (.int (3 : Int32)), .unset, .unset, .unset, .unset, .unset] [(.ref b64)]))
    refine own_by (fun _ k => XS.astore X65.here hx rfl (hb hby at_18) rfl rfl (l' := #[.val (.int p0), .val (.int p1), .val (.int p2), .val (.int p3), .val (.int p4), .val (.int (3 : Int32)), .val (.ref b64), .unset, .unset, .unset, .unset]) rfl k) ?_
    show own_Go p e below _ (T65.setTop (mkF m 20 #[.val (.int p0), .val (.int p1), .val (.int p2), .val (.int p3), .val (.int p4), .val (.int (3 : Int32)), .val (.ref b64), .unset, .unset, .unset, .unset] []))
    refine own_by (fun _ k => XS.aload X65.here hx rfl (hb hby at_20) rfl rfl k) ?_
    show own_Go p e below _ (T65.setTop (mkF m 22 #[.val (.int p0), .val (.int p1), .val (.int p2), .val (.int p3), .val (.int p4), .val (.int (3 : Int32)), .val (.ref b64), .unset, .unset, .unset, .unset] [(.ref b64)]))
    refine own_by (fun _ k => XS.iloadN X65.here hx rfl (hb hby at_22) rfl k) ?_
    show own_Go p e below _ (T65.setTop (mkF m 23 #[.val (.int p0), .val (.int p1), .val (.int p2), .val (.int p3), .val (.int p4), .val (.int (3 : Int32)), .val (.ref b64), .unset, .unset, .unset, .unset] [(.int p0), (.ref b64)]))
    obtain ⟨cq74, kq74, q74a, q74b, q74c⟩ := isOf hZ rfl F68
    obtain ⟨_, _, ⟨T74, L74, k74, n74⟩, -, X74, ⟨Lc74, hQ74, l74, y74, z74⟩, st74⟩ := X65.virtualBack hx (y := (⟨"com/example/margay/margay/index/IntList", "add", "(I)V"⟩ : MethodName)) (z := (⟨"com/example/margay/margay/index/IntList", "add", "(I)V"⟩ : MethodName)) hown (mvT hZ (hw _ (List.mem_of_getElem? (i := 13) rfl))) (mvT hZ (hw _ (List.mem_of_getElem? (i := 14) rfl))) (notFace_of_selects (args := #[]) (mvT hZ (hw _ (List.mem_of_getElem? (i := 16) rfl)))) (mvT hZ (hw _ (List.mem_of_getElem? (i := 16) rfl))) (mvT hZ (hw _ (List.mem_of_getElem? (i := 15) rfl))) (by decide) (backOf (W := 0) (rm3 l Z A0 hw [] b64 p0 (0 : Int32) b66 b67 (8 : Int32) (fun _ => (0 : Int32)) T65.heap n0 Z65 F70 F69 F73 (by decide) F68 ge_b64 (by decide) hp71) hZ (hw _ (List.mem_of_getElem? (i := 17) rfl)) (hw _ (List.mem_of_getElem? (i := 3) rfl)) (by decide) (by decide)) q74a q74c (g := (mkF m 23 #[.val (.int p0), .val (.int p1), .val (.int p2), .val (.int p3), .val (.int p4), .val (.int (3 : Int32)), .val (.ref b64), .unset, .unset, .unset, .unset] [(.int p0), (.ref b64)])) rfl (by rw [hml]; rfl) (Steps.refl _) (argsL := [(.int p0)]) (rest := []) (lenOf pd_13 rfl) rfl (by show 2 * 0 + _ ≤ _; exact Nat.le_of_eq rfl) (hb hby at_23) (fun _ _ => ⟨rfl, rfl, (by decide : 2 + 0 ≤ _), (by decide : 10 + 0 ≤ _)⟩)
    dsimp only [Pt.U, Pt.locs, Pt.cells, Pt.slots] at X74 l74 y74 z74 st74 hQ74
    subst l74 y74 z74
    obtain ⟨rfl, Nq74, Kq74, F75, F76, F77, F78⟩ := hQ74
    have N74 := Fr.app N65 Nq74
    have K74 : Keep h0 T74.heap [] := K65.trans Kq74 ((allS (Or.inr sz_b64) (allS (Or.inr sz_b66) all0)))
    have Z74 : n0 ≤ T74.heap.size := Nat.le_trans Z65 Kq74.1
    refine own_by (fun _ k => st74.trans k) ?_
    show own_Go p e below _ (T74.setTop (mkF m 26 #[.val (.int p0), .val (.int p1), .val (.int p2), .val (.int p3), .val (.int p4), .val (.int (3 : Int32)), .val (.ref b64), .unset, .unset, .unset, .unset] []))
    refine own_by (fun _ k => XS.iload X74.here hx rfl (hb hby at_26) rfl k) ?_
    show own_Go p e below _ (T74.setTop (mkF m 28 #[.val (.int p0), .val (.int p1), .val (.int p2), .val (.int p3), .val (.int p4), .val (.int (3 : Int32)), .val (.ref b64), .unset, .unset, .unset, .unset] [(.int (3 : Int32))]))
    refine own_by (fun _ k => XS.iconst X74.here hx rfl (hb hby at_28) k) ?_
    show own_Go p e below _ (T74.setTop (mkF m 29 #[.val (.int p0), .val (.int p1), .val (.int p2), .val (.int p3), .val (.int p4), .val (.int (3 : Int32)), .val (.ref b64), .unset, .unset, .unset, .unset] [(.int (2 : Int32)), (.int (3 : Int32))]))
    refine own_by (fun _ k => XS.icmpNo X74.here hx rfl (hb hby at_29) rfl (flt (by decide : ¬ ((3 : Int32) < (2 : Int32)))).1 k) ?_
    show own_Go p e below _ (T74.setTop (mkF m 32 #[.val (.int p0), .val (.int p1), .val (.int p2), .val (.int p3), .val (.int p4), .val (.int (3 : Int32)), .val (.ref b64), .unset, .unset, .unset, .unset] []))
    refine own_by (fun _ k => XS.aload X74.here hx rfl (hb hby at_32) rfl rfl k) ?_
    show own_Go p e below _ (T74.setTop (mkF m 34 #[.val (.int p0), .val (.int p1), .val (.int p2), .val (.int p3), .val (.int p4), .val (.int (3 : Int32)), .val (.ref b64), .unset, .unset, .unset, .unset] [(.ref b64)]))
    refine own_by (fun _ k => XS.iloadN X74.here hx rfl (hb hby at_34) rfl k) ?_
    show own_Go p e below _ (T74.setTop (mkF m 35 #[.val (.int p0), .val (.int p1), .val (.int p2), .val (.int p3), .val (.int p4), .val (.int (3 : Int32)), .val (.ref b64), .unset, .unset, .unset, .unset] [(.int p1), (.ref b64)]))
    obtain ⟨cq79, kq79, q79a, q79b, q79c⟩ := isOf hZ rfl F77
    obtain ⟨_, _, ⟨T79, L79, k79, n79⟩, -, X79, ⟨Lc79, hQ79, l79, y79, z79⟩, st79⟩ := X74.virtualBack hx (y := (⟨"com/example/margay/margay/index/IntList", "add", "(I)V"⟩ : MethodName)) (z := (⟨"com/example/margay/margay/index/IntList", "add", "(I)V"⟩ : MethodName)) hown (mvT hZ (hw _ (List.mem_of_getElem? (i := 13) rfl))) (mvT hZ (hw _ (List.mem_of_getElem? (i := 14) rfl))) (notFace_of_selects (args := #[]) (mvT hZ (hw _ (List.mem_of_getElem? (i := 16) rfl)))) (mvT hZ (hw _ (List.mem_of_getElem? (i := 16) rfl))) (mvT hZ (hw _ (List.mem_of_getElem? (i := 15) rfl))) (by decide) (backOf (W := 0) (rm3 l Z A0 hw [] b64 p1 (1 : Int32) b66 b67 (8 : Int32) (own_upd (fun _ => (0 : Int32)) 0 p0) T74.heap n0 Z74 F75 F76 F78 (by decide) F77 ge_b64 (by decide) hp71) hZ (hw _ (List.mem_of_getElem? (i := 17) rfl)) (hw _ (List.mem_of_getElem? (i := 3) rfl)) (by decide) (by decide)) q79a q79c (g := (mkF m 35 #[.val (.int p0), .val (.int p1), .val (.int p2), .val (.int p3), .val (.int p4), .val (.int (3 : Int32)), .val (.ref b64), .unset, .unset, .unset, .unset] [(.int p1), (.ref b64)])) rfl (by rw [hml]; rfl) (Steps.refl _) (argsL := [(.int p1)]) (rest := []) (lenOf pd_13 rfl) rfl (by show 2 * 0 + _ ≤ _; exact Nat.le_of_eq rfl) (hb hby at_35) (fun _ _ => ⟨rfl, rfl, (by decide : 2 + 0 ≤ _), (by decide : 10 + 0 ≤ _)⟩)
    dsimp only [Pt.U, Pt.locs, Pt.cells, Pt.slots] at X79 l79 y79 z79 st79 hQ79
    subst l79 y79 z79
    obtain ⟨rfl, Nq79, Kq79, F80, F81, F82, F83⟩ := hQ79
    have N79 := Fr.app N74 Nq79
    have K79 : Keep h0 T79.heap [] := K74.trans Kq79 ((allS (Or.inr sz_b64) (allS (Or.inr sz_b66) all0)))
    have Z79 : n0 ≤ T79.heap.size := Nat.le_trans Z74 Kq79.1
    refine own_by (fun _ k => st79.trans k) ?_
    show own_Go p e below _ (T79.setTop (mkF m 38 #[.val (.int p0), .val (.int p1), .val (.int p2), .val (.int p3), .val (.int p4), .val (.int (3 : Int32)), .val (.ref b64), .unset, .unset, .unset, .unset] []))
    refine own_by (fun _ k => XS.iload X79.here hx rfl (hb hby at_38) rfl k) ?_
    show own_Go p e below _ (T79.setTop (mkF m 40 #[.val (.int p0), .val (.int p1), .val (.int p2), .val (.int p3), .val (.int p4), .val (.int (3 : Int32)), .val (.ref b64), .unset, .unset, .unset, .unset] [(.int (3 : Int32))]))
    refine own_by (fun _ k => XS.iconst X79.here hx rfl (hb hby at_40) k) ?_
    show own_Go p e below _ (T79.setTop (mkF m 41 #[.val (.int p0), .val (.int p1), .val (.int p2), .val (.int p3), .val (.int p4), .val (.int (3 : Int32)), .val (.ref b64), .unset, .unset, .unset, .unset] [(.int (3 : Int32)), (.int (3 : Int32))]))
    refine own_by (fun _ k => XS.icmpNo X79.here hx rfl (hb hby at_41) rfl (flt (by decide : ¬ ((3 : Int32) < (3 : Int32)))).1 k) ?_
    show own_Go p e below _ (T79.setTop (mkF m 44 #[.val (.int p0), .val (.int p1), .val (.int p2), .val (.int p3), .val (.int p4), .val (.int (3 : Int32)), .val (.ref b64), .unset, .unset, .unset, .unset] []))
    refine own_by (fun _ k => XS.aload X79.here hx rfl (hb hby at_44) rfl rfl k) ?_
    show own_Go p e below _ (T79.setTop (mkF m 46 #[.val (.int p0), .val (.int p1), .val (.int p2), .val (.int p3), .val (.int p4), .val (.int (3 : Int32)), .val (.ref b64), .unset, .unset, .unset, .unset] [(.ref b64)]))
    refine own_by (fun _ k => XS.iloadN X79.here hx rfl (hb hby at_46) rfl k) ?_
    show own_Go p e below _ (T79.setTop (mkF m 47 #[.val (.int p0), .val (.int p1), .val (.int p2), .val (.int p3), .val (.int p4), .val (.int (3 : Int32)), .val (.ref b64), .unset, .unset, .unset, .unset] [(.int p2), (.ref b64)]))
    obtain ⟨cq84, kq84, q84a, q84b, q84c⟩ := isOf hZ rfl F82
    obtain ⟨_, _, ⟨T84, L84, k84, n84⟩, -, X84, ⟨Lc84, hQ84, l84, y84, z84⟩, st84⟩ := X79.virtualBack hx (y := (⟨"com/example/margay/margay/index/IntList", "add", "(I)V"⟩ : MethodName)) (z := (⟨"com/example/margay/margay/index/IntList", "add", "(I)V"⟩ : MethodName)) hown (mvT hZ (hw _ (List.mem_of_getElem? (i := 13) rfl))) (mvT hZ (hw _ (List.mem_of_getElem? (i := 14) rfl))) (notFace_of_selects (args := #[]) (mvT hZ (hw _ (List.mem_of_getElem? (i := 16) rfl)))) (mvT hZ (hw _ (List.mem_of_getElem? (i := 16) rfl))) (mvT hZ (hw _ (List.mem_of_getElem? (i := 15) rfl))) (by decide) (backOf (W := 0) (rm3 l Z A0 hw [] b64 p2 (2 : Int32) b66 b67 (8 : Int32) (own_upd (own_upd (fun _ => (0 : Int32)) 0 p0) 1 p1) T79.heap n0 Z79 F80 F81 F83 (by decide) F82 ge_b64 (by decide) hp71) hZ (hw _ (List.mem_of_getElem? (i := 17) rfl)) (hw _ (List.mem_of_getElem? (i := 3) rfl)) (by decide) (by decide)) q84a q84c (g := (mkF m 47 #[.val (.int p0), .val (.int p1), .val (.int p2), .val (.int p3), .val (.int p4), .val (.int (3 : Int32)), .val (.ref b64), .unset, .unset, .unset, .unset] [(.int p2), (.ref b64)])) rfl (by rw [hml]; rfl) (Steps.refl _) (argsL := [(.int p2)]) (rest := []) (lenOf pd_13 rfl) rfl (by show 2 * 0 + _ ≤ _; exact Nat.le_of_eq rfl) (hb hby at_47) (fun _ _ => ⟨rfl, rfl, (by decide : 2 + 0 ≤ _), (by decide : 10 + 0 ≤ _)⟩)
    dsimp only [Pt.U, Pt.locs, Pt.cells, Pt.slots] at X84 l84 y84 z84 st84 hQ84
    subst l84 y84 z84
    obtain ⟨rfl, Nq84, Kq84, F85, F86, F87, F88⟩ := hQ84
    have N84 := Fr.app N79 Nq84
    have K84 : Keep h0 T84.heap [] := K79.trans Kq84 ((allS (Or.inr sz_b64) (allS (Or.inr sz_b66) all0)))
    have Z84 : n0 ≤ T84.heap.size := Nat.le_trans Z79 Kq84.1
    refine own_by (fun _ k => st84.trans k) ?_
    show own_Go p e below _ (T84.setTop (mkF m 50 #[.val (.int p0), .val (.int p1), .val (.int p2), .val (.int p3), .val (.int p4), .val (.int (3 : Int32)), .val (.ref b64), .unset, .unset, .unset, .unset] []))
    refine own_by (fun _ k => XS.iload X84.here hx rfl (hb hby at_50) rfl k) ?_
    show own_Go p e below _ (T84.setTop (mkF m 52 #[.val (.int p0), .val (.int p1), .val (.int p2), .val (.int p3), .val (.int p4), .val (.int (3 : Int32)), .val (.ref b64), .unset, .unset, .unset, .unset] [(.int (3 : Int32))]))
    refine own_by (fun _ k => XS.iconst X84.here hx rfl (hb hby at_52) k) ?_
    show own_Go p e below _ (T84.setTop (mkF m 53 #[.val (.int p0), .val (.int p1), .val (.int p2), .val (.int p3), .val (.int p4), .val (.int (3 : Int32)), .val (.ref b64), .unset, .unset, .unset, .unset] [(.int (1 : Int32)), (.int (3 : Int32))]))
    refine own_by (fun _ k => XS.icmpYes X84.here hx rfl (pc0 := 53) (pc' := 60) rfl (hb hby at_53) rfl (feq (by decide : ¬ ((3 : Int32) = (1 : Int32)))).2 (by decide) (by decide) k) ?_
    show own_Go p e below _ (T84.setTop (mkF m 60 #[.val (.int p0), .val (.int p1), .val (.int p2), .val (.int p3), .val (.int p4), .val (.int (3 : Int32)), .val (.ref b64), .unset, .unset, .unset, .unset] []))
    refine own_by (fun _ k => XS.iload X84.here hx rfl (hb hby at_60) rfl k) ?_
    show own_Go p e below _ (T84.setTop (mkF m 62 #[.val (.int p0), .val (.int p1), .val (.int p2), .val (.int p3), .val (.int p4), .val (.int (3 : Int32)), .val (.ref b64), .unset, .unset, .unset, .unset] [(.int (3 : Int32))]))
    refine own_by (fun _ k => XS.iconst X84.here hx rfl (hb hby at_62) k) ?_
    show own_Go p e below _ (T84.setTop (mkF m 63 #[.val (.int p0), .val (.int p1), .val (.int p2), .val (.int p3), .val (.int p4), .val (.int (3 : Int32)), .val (.ref b64), .unset, .unset, .unset, .unset] [(.int (2 : Int32)), (.int (3 : Int32))]))
    refine own_by (fun _ k => XS.icmpYes X84.here hx rfl (pc0 := 63) (pc' := 70) rfl (hb hby at_63) rfl (feq (by decide : ¬ ((3 : Int32) = (2 : Int32)))).2 (by decide) (by decide) k) ?_
    show own_Go p e below _ (T84.setTop (mkF m 70 #[.val (.int p0), .val (.int p1), .val (.int p2), .val (.int p3), .val (.int p4), .val (.int (3 : Int32)), .val (.ref b64), .unset, .unset, .unset, .unset] []))
    refine own_by (fun _ k => XS.iloadN X84.here hx rfl (hb hby at_70) rfl k) ?_
    show own_Go p e below _ (T84.setTop (mkF m 71 #[.val (.int p0), .val (.int p1), .val (.int p2), .val (.int p3), .val (.int p4), .val (.int (3 : Int32)), .val (.ref b64), .unset, .unset, .unset, .unset] [(.int p2)]))
    refine own_by (fun _ k => XS.istore X84.here hx rfl (hb hby at_71) rfl (l' := #[.val (.int p0), .val (.int p1), .val (.int p2), .val (.int p3), .val (.int p4), .val (.int (3 : Int32)), .val (.ref b64), .val (.int p2), .unset, .unset, .unset]) rfl k) ?_
    show own_Go p e below _ (T84.setTop (mkF m 73 #[.val (.int p0), .val (.int p1), .val (.int p2), .val (.int p3), .val (.int p4), .val (.int (3 : Int32)), .val (.ref b64), .val (.int p2), .unset, .unset, .unset] []))
    refine own_by (fun _ k => XS.aload X84.here hx rfl (hb hby at_73) rfl rfl k) ?_
    show own_Go p e below _ (T84.setTop (mkF m 75 #[.val (.int p0), .val (.int p1), .val (.int p2), .val (.int p3), .val (.int p4), .val (.int (3 : Int32)), .val (.ref b64), .val (.int p2), .unset, .unset, .unset] [(.ref b64)]))
    obtain ⟨cq89, kq89, q89a, q89b, q89c⟩ := isOf hZ rfl F87
    obtain ⟨_, _, ⟨T89, L89, k89, n89⟩, -, X89, ⟨Lc89, hQ89, l89, y89, z89⟩, st89⟩ := X84.virtualBack hx (y := (⟨"com/example/margay/margay/index/IntList", "removeLast", "()I"⟩ : MethodName)) (z := (⟨"com/example/margay/margay/index/IntList", "removeLast", "()I"⟩ : MethodName)) hown (mvT hZ (hw _ (List.mem_of_getElem? (i := 20) rfl))) (mvT hZ (hw _ (List.mem_of_getElem? (i := 21) rfl))) (notFace_of_selects (args := #[]) (mvT hZ (hw _ (List.mem_of_getElem? (i := 23) rfl)))) (mvT hZ (hw _ (List.mem_of_getElem? (i := 23) rfl))) (mvT hZ (hw _ (List.mem_of_getElem? (i := 22) rfl))) (by decide) (backOf (W := 0) (rm4 l Z A0 hw [] b64 b66 (3 : Int32) b67 (8 : Int32) (own_upd (own_upd (own_upd (fun _ => (0 : Int32)) 0 p0) 1 p1) 2 p2) T84.heap n0 Z84 F86 F85 F87 ge_b64 F88 (by decide)) hZ (hw _ (List.mem_of_getElem? (i := 24) rfl)) (hw _ (List.mem_of_getElem? (i := 3) rfl)) (by decide) (by decide)) q89a q89c (g := (mkF m 75 #[.val (.int p0), .val (.int p1), .val (.int p2), .val (.int p3), .val (.int p4), .val (.int (3 : Int32)), .val (.ref b64), .val (.int p2), .unset, .unset, .unset] [(.ref b64)])) rfl (by rw [hml]; rfl) (Steps.refl _) (argsL := []) (rest := []) (lenOf pd_20 rfl) rfl (by show 2 * 0 + _ ≤ _; exact Nat.le_of_eq rfl) (hb hby at_75) (fun _ _ => ⟨rfl, rfl, (by decide : 2 + 0 ≤ _), (by decide : 10 + 0 ≤ _)⟩)
    dsimp only [Pt.U, Pt.locs, Pt.cells, Pt.slots] at X89 l89 y89 z89 st89 hQ89
    subst l89 y89 z89
    obtain ⟨rfl, Nq89, Kq89, F90, F91, F92⟩ := hQ89
    have N89 := Fr.app N84 Nq89
    have K89 : Keep h0 T89.heap [] := K84.trans Kq89 ((allS (Or.inr sz_b64) all0))
    have Z89 : n0 ≤ T89.heap.size := Nat.le_trans Z84 Kq89.1
    refine own_by (fun _ k => st89.trans k) ?_
    show own_Go p e below _ (T89.setTop (mkF m 78 #[.val (.int p0), .val (.int p1), .val (.int p2), .val (.int p3), .val (.int p4), .val (.int (3 : Int32)), .val (.ref b64), .val (.int p2), .unset, .unset, .unset] [(.int p2)]))
    refine own_by (fun _ k => XS.istore X89.here hx rfl (hb hby at_78) rfl (l' := #[.val (.int p0), .val (.int p1), .val (.int p2), .val (.int p3), .val (.int p4), .val (.int (3 : Int32)), .val (.ref b64), .val (.int p2), .val (.int p2), .unset, .unset]) rfl k) ?_
    show own_Go p e below _ (T89.setTop (mkF m 80 #[.val (.int p0), .val (.int p1), .val (.int p2), .val (.int p3), .val (.int p4), .val (.int (3 : Int32)), .val (.ref b64), .val (.int p2), .val (.int p2), .unset, .unset] []))
    refine own_by (fun _ k => XS.iload X89.here hx rfl (hb hby at_80) rfl k) ?_
    show own_Go p e below _ (T89.setTop (mkF m 82 #[.val (.int p0), .val (.int p1), .val (.int p2), .val (.int p3), .val (.int p4), .val (.int (3 : Int32)), .val (.ref b64), .val (.int p2), .val (.int p2), .unset, .unset] [(.int p2)]))
    refine own_by (fun _ k => XS.iload X89.here hx rfl (hb hby at_82) rfl k) ?_
    show own_Go p e below _ (T89.setTop (mkF m 84 #[.val (.int p0), .val (.int p1), .val (.int p2), .val (.int p3), .val (.int p4), .val (.int (3 : Int32)), .val (.ref b64), .val (.int p2), .val (.int p2), .unset, .unset] [(.int p2), (.int p2)]))
    refine own_by (fun _ k => XS.icmpNo X89.here hx rfl (hb hby at_84) rfl (teq (rfl : p2 = p2)).2 k) ?_
    show own_Go p e below _ (T89.setTop (mkF m 87 #[.val (.int p0), .val (.int p1), .val (.int p2), .val (.int p3), .val (.int p4), .val (.int (3 : Int32)), .val (.ref b64), .val (.int p2), .val (.int p2), .unset, .unset] []))
    refine own_by (fun _ k => XS.iconst X89.here hx rfl (hb hby at_87) k) ?_
    show own_Go p e below _ (T89.setTop (mkF m 88 #[.val (.int p0), .val (.int p1), .val (.int p2), .val (.int p3), .val (.int p4), .val (.int (3 : Int32)), .val (.ref b64), .val (.int p2), .val (.int p2), .unset, .unset] [(.int (1 : Int32))]))
    refine own_by (fun _ k => XS.goto X89.here hx rfl (pc0 := 88) (pc' := 92) rfl (hb hby at_88) (by decide) (by decide) k) ?_
    show own_Go p e below _ (T89.setTop (mkF m 92 #[.val (.int p0), .val (.int p1), .val (.int p2), .val (.int p3), .val (.int p4), .val (.int (3 : Int32)), .val (.ref b64), .val (.int p2), .val (.int p2), .unset, .unset] [(.int (1 : Int32))]))
    refine own_by (fun _ k => XS.istore X89.here hx rfl (hb hby at_92) rfl (l' := #[.val (.int p0), .val (.int p1), .val (.int p2), .val (.int p3), .val (.int p4), .val (.int (3 : Int32)), .val (.ref b64), .val (.int p2), .val (.int p2), .val (.int (1 : Int32)), .unset]) rfl k) ?_
    show own_Go p e below _ (T89.setTop (mkF m 94 #[.val (.int p0), .val (.int p1), .val (.int p2), .val (.int p3), .val (.int p4), .val (.int (3 : Int32)), .val (.ref b64), .val (.int p2), .val (.int p2), .val (.int (1 : Int32)), .unset] []))
    refine own_by (fun _ k => XS.iload X89.here hx rfl (hb hby at_94) rfl k) ?_
    show own_Go p e below _ (T89.setTop (mkF m 96 #[.val (.int p0), .val (.int p1), .val (.int p2), .val (.int p3), .val (.int p4), .val (.int (3 : Int32)), .val (.ref b64), .val (.int p2), .val (.int p2), .val (.int (1 : Int32)), .unset] [(.int (1 : Int32))]))
    refine own_by (fun _ k => XS.ifNo X89.here hx rfl (hb hby at_96) rfl ((if0 _ _).trans (feq (by decide : ¬ ((1 : Int32) = (0 : Int32)))).1) k) ?_
    show own_Go p e below _ (T89.setTop (mkF m 99 #[.val (.int p0), .val (.int p1), .val (.int p2), .val (.int p3), .val (.int p4), .val (.int (3 : Int32)), .val (.ref b64), .val (.int p2), .val (.int p2), .val (.int (1 : Int32)), .unset] []))
    refine own_by (fun _ k => XS.aload X89.here hx rfl (hb hby at_99) rfl rfl k) ?_
    show own_Go p e below _ (T89.setTop (mkF m 101 #[.val (.int p0), .val (.int p1), .val (.int p2), .val (.int p3), .val (.int p4), .val (.int (3 : Int32)), .val (.ref b64), .val (.int p2), .val (.int p2), .val (.int (1 : Int32)), .unset] [(.ref b64)]))
    obtain ⟨cq93, kq93, q93a, q93b, q93c⟩ := isOf hZ rfl F92
    obtain ⟨_, _, ⟨T93, L93, k93, n93⟩, -, X93, ⟨Lc93, hQ93, l93, y93, z93⟩, st93⟩ := X89.virtualBack hx (y := (⟨"com/example/margay/margay/index/IntList", "size", "()I"⟩ : MethodName)) (z := (⟨"com/example/margay/margay/index/IntList", "size", "()I"⟩ : MethodName)) hown (mvT hZ (hw _ (List.mem_of_getElem? (i := 25) rfl))) (mvT hZ (hw _ (List.mem_of_getElem? (i := 26) rfl))) (notFace_of_selects (args := #[]) (mvT hZ (hw _ (List.mem_of_getElem? (i := 28) rfl)))) (mvT hZ (hw _ (List.mem_of_getElem? (i := 28) rfl))) (mvT hZ (hw _ (List.mem_of_getElem? (i := 27) rfl))) (by decide) (backOf (W := 0) (rm5 l Z A0 hw [] b64 (2 : Int32) T89.heap n0 Z89 F91) hZ (hw _ (List.mem_of_getElem? (i := 29) rfl)) (hw _ (List.mem_of_getElem? (i := 3) rfl)) (by decide) (by decide)) q93a q93c (g := (mkF m 101 #[.val (.int p0), .val (.int p1), .val (.int p2), .val (.int p3), .val (.int p4), .val (.int (3 : Int32)), .val (.ref b64), .val (.int p2), .val (.int p2), .val (.int (1 : Int32)), .unset] [(.ref b64)])) rfl (by rw [hml]; rfl) (Steps.refl _) (argsL := []) (rest := []) (lenOf pd_20 rfl) rfl (by show 2 * 0 + _ ≤ _; exact Nat.le_of_eq rfl) (hb hby at_101) (fun _ _ => ⟨rfl, rfl, (by decide : 2 + 0 ≤ _), (by decide : 10 + 0 ≤ _)⟩)
    dsimp only [Pt.U, Pt.locs, Pt.cells, Pt.slots] at X93 l93 y93 z93 st93 hQ93
    subst l93 y93 z93
    obtain ⟨rfl, Nq93, eq93⟩ := hQ93
    have N93 := Fr.app N89 Nq93
    refine own_by (fun _ k => st93.trans k) ?_
    show own_Go p e below _ (T93.setTop (mkF m 104 #[.val (.int p0), .val (.int p1), .val (.int p2), .val (.int p3), .val (.int p4), .val (.int (3 : Int32)), .val (.ref b64), .val (.int p2), .val (.int p2), .val (.int (1 : Int32)), .unset] [(.int (2 : Int32))]))
    refine own_by (fun _ k => XS.iload X93.here hx rfl (hb hby at_104) rfl k) ?_
    show own_Go p e below _ (T93.setTop (mkF m 106 #[.val (.int p0), .val (.int p1), .val (.int p2), .val (.int p3), .val (.int p4), .val (.int (3 : Int32)), .val (.ref b64), .val (.int p2), .val (.int p2), .val (.int (1 : Int32)), .unset] [(.int (3 : Int32)), (.int (2 : Int32))]))
    refine own_by (fun _ k => XS.iconst X93.here hx rfl (hb hby at_106) k) ?_
    show own_Go p e below _ (T93.setTop (mkF m 107 #[.val (.int p0), .val (.int p1), .val (.int p2), .val (.int p3), .val (.int p4), .val (.int (3 : Int32)), .val (.ref b64), .val (.int p2), .val (.int p2), .val (.int (1 : Int32)), .unset] [(.int (1 : Int32)), (.int (3 : Int32)), (.int (2 : Int32))]))
    refine own_by (fun _ k => XS.isub X93.here hx rfl (hb hby at_107) rfl k) ?_
    show own_Go p e below _ (T93.setTop (mkF m 108 #[.val (.int p0), .val (.int p1), .val (.int p2), .val (.int p3), .val (.int p4), .val (.int (3 : Int32)), .val (.ref b64), .val (.int p2), .val (.int p2), .val (.int (1 : Int32)), .unset] [(.int (2 : Int32)), (.int (2 : Int32))]))
    refine own_by (fun _ k => XS.icmpNo X93.here hx rfl (hb hby at_108) rfl (teq (by decide : (2 : Int32) = (2 : Int32))).2 k) ?_
    show own_Go p e below _ (T93.setTop (mkF m 111 #[.val (.int p0), .val (.int p1), .val (.int p2), .val (.int p3), .val (.int p4), .val (.int (3 : Int32)), .val (.ref b64), .val (.int p2), .val (.int p2), .val (.int (1 : Int32)), .unset] []))
    refine own_by (fun _ k => XS.iconst X93.here hx rfl (hb hby at_111) k) ?_
    show own_Go p e below _ (T93.setTop (mkF m 112 #[.val (.int p0), .val (.int p1), .val (.int p2), .val (.int p3), .val (.int p4), .val (.int (3 : Int32)), .val (.ref b64), .val (.int p2), .val (.int p2), .val (.int (1 : Int32)), .unset] [(.int (1 : Int32))]))
    refine own_by (fun _ k => XS.goto X93.here hx rfl (pc0 := 112) (pc' := 116) rfl (hb hby at_112) (by decide) (by decide) k) ?_
    show own_Go p e below _ (T93.setTop (mkF m 116 #[.val (.int p0), .val (.int p1), .val (.int p2), .val (.int p3), .val (.int p4), .val (.int (3 : Int32)), .val (.ref b64), .val (.int p2), .val (.int p2), .val (.int (1 : Int32)), .unset] [(.int (1 : Int32))]))
    refine own_by (fun _ k => XS.istore X93.here hx rfl (hb hby at_116) rfl (l' := #[.val (.int p0), .val (.int p1), .val (.int p2), .val (.int p3), .val (.int p4), .val (.int (3 : Int32)), .val (.ref b64), .val (.int p2), .val (.int p2), .val (.int (1 : Int32)), .unset]) rfl k) ?_
    show own_Go p e below _ (T93.setTop (mkF m 118 #[.val (.int p0), .val (.int p1), .val (.int p2), .val (.int p3), .val (.int p4), .val (.int (3 : Int32)), .val (.ref b64), .val (.int p2), .val (.int p2), .val (.int (1 : Int32)), .unset] []))
    refine own_by (fun _ k => XS.iload X93.here hx rfl (hb hby at_118) rfl k) ?_
    show own_Go p e below _ (T93.setTop (mkF m 120 #[.val (.int p0), .val (.int p1), .val (.int p2), .val (.int p3), .val (.int p4), .val (.int (3 : Int32)), .val (.ref b64), .val (.int p2), .val (.int p2), .val (.int (1 : Int32)), .unset] [(.int (3 : Int32))]))
    refine own_by (fun _ k => XS.iconst X93.here hx rfl (hb hby at_120) k) ?_
    show own_Go p e below _ (T93.setTop (mkF m 121 #[.val (.int p0), .val (.int p1), .val (.int p2), .val (.int p3), .val (.int p4), .val (.int (3 : Int32)), .val (.ref b64), .val (.int p2), .val (.int p2), .val (.int (1 : Int32)), .unset] [(.int (2 : Int32)), (.int (3 : Int32))]))
    refine own_by (fun _ k => XS.icmpNo X93.here hx rfl (hb hby at_121) rfl (flt (by decide : ¬ ((3 : Int32) < (2 : Int32)))).1 k) ?_
    show own_Go p e below _ (T93.setTop (mkF m 124 #[.val (.int p0), .val (.int p1), .val (.int p2), .val (.int p3), .val (.int p4), .val (.int (3 : Int32)), .val (.ref b64), .val (.int p2), .val (.int p2), .val (.int (1 : Int32)), .unset] []))
    refine own_by (fun _ k => XS.iload X93.here hx rfl (hb hby at_124) rfl k) ?_
    show own_Go p e below _ (T93.setTop (mkF m 126 #[.val (.int p0), .val (.int p1), .val (.int p2), .val (.int p3), .val (.int p4), .val (.int (3 : Int32)), .val (.ref b64), .val (.int p2), .val (.int p2), .val (.int (1 : Int32)), .unset] [(.int (3 : Int32))]))
    refine own_by (fun _ k => XS.iconst X93.here hx rfl (hb hby at_126) k) ?_
    show own_Go p e below _ (T93.setTop (mkF m 127 #[.val (.int p0), .val (.int p1), .val (.int p2), .val (.int p3), .val (.int p4), .val (.int (3 : Int32)), .val (.ref b64), .val (.int p2), .val (.int p2), .val (.int (1 : Int32)), .unset] [(.int (2 : Int32)), (.int (3 : Int32))]))
    refine own_by (fun _ k => XS.icmpYes X93.here hx rfl (pc0 := 127) (pc' := 134) rfl (hb hby at_127) rfl (feq (by decide : ¬ ((3 : Int32) = (2 : Int32)))).2 (by decide) (by decide) k) ?_
    show own_Go p e below _ (T93.setTop (mkF m 134 #[.val (.int p0), .val (.int p1), .val (.int p2), .val (.int p3), .val (.int p4), .val (.int (3 : Int32)), .val (.ref b64), .val (.int p2), .val (.int p2), .val (.int (1 : Int32)), .unset] []))
    refine own_by (fun _ k => XS.iloadN X93.here hx rfl (hb hby at_134) rfl k) ?_
    show own_Go p e below _ (T93.setTop (mkF m 135 #[.val (.int p0), .val (.int p1), .val (.int p2), .val (.int p3), .val (.int p4), .val (.int (3 : Int32)), .val (.ref b64), .val (.int p2), .val (.int p2), .val (.int (1 : Int32)), .unset] [(.int p1)]))
    refine own_by (fun _ k => XS.istore X93.here hx rfl (hb hby at_135) rfl (l' := #[.val (.int p0), .val (.int p1), .val (.int p2), .val (.int p3), .val (.int p4), .val (.int (3 : Int32)), .val (.ref b64), .val (.int p2), .val (.int p2), .val (.int (1 : Int32)), .val (.int p1)]) rfl k) ?_
    show own_Go p e below _ (T93.setTop (mkF m 137 #[.val (.int p0), .val (.int p1), .val (.int p2), .val (.int p3), .val (.int p4), .val (.int (3 : Int32)), .val (.ref b64), .val (.int p2), .val (.int p2), .val (.int (1 : Int32)), .val (.int p1)] []))
    refine own_by (fun _ k => XS.iload X93.here hx rfl (hb hby at_137) rfl k) ?_
    show own_Go p e below _ (T93.setTop (mkF m 139 #[.val (.int p0), .val (.int p1), .val (.int p2), .val (.int p3), .val (.int p4), .val (.int (3 : Int32)), .val (.ref b64), .val (.int p2), .val (.int p2), .val (.int (1 : Int32)), .val (.int p1)] [(.int (1 : Int32))]))
    refine own_by (fun _ k => XS.ifNo X93.here hx rfl (hb hby at_139) rfl ((if0 _ _).trans (feq (by decide : ¬ ((1 : Int32) = (0 : Int32)))).1) k) ?_
    show own_Go p e below _ (T93.setTop (mkF m 142 #[.val (.int p0), .val (.int p1), .val (.int p2), .val (.int p3), .val (.int p4), .val (.int (3 : Int32)), .val (.ref b64), .val (.int p2), .val (.int p2), .val (.int (1 : Int32)), .val (.int p1)] []))
    refine own_by (fun _ k => XS.aload X93.here hx rfl (hb hby at_142) rfl rfl k) ?_
    show own_Go p e below _ (T93.setTop (mkF m 144 #[.val (.int p0), .val (.int p1), .val (.int p2), .val (.int p3), .val (.int p4), .val (.int (3 : Int32)), .val (.ref b64), .val (.int p2), .val (.int p2), .val (.int (1 : Int32)), .val (.int p1)] [(.ref b64)]))
    have F94 : own_Arf Z T89.heap b66 b67 .int (8 : Int32) (fun i => .int ((own_upd (own_upd (own_upd (fun _ => (0 : Int32)) 0 p0) 1 p1) 2 p2) i)) := (F88.keep Kq89 (ninS (Ne.symm (Nat.ne_of_lt (Nat.lt_of_lt_of_le (A64).lt hp72))) nin0))
    obtain ⟨cq95, kq95, q95a, q95b, q95c⟩ := isOf hZ eq93 F92
    obtain ⟨_, _, ⟨T95, L95, k95, n95⟩, -, X95, ⟨Lc95, hQ95, l95, y95, z95⟩, st95⟩ := X93.virtualBack hx (y := (⟨"com/example/margay/margay/index/IntList", "last", "()I"⟩ : MethodName)) (z := (⟨"com/example/margay/margay/index/IntList", "last", "()I"⟩ : MethodName)) hown (mvT hZ (hw _ (List.mem_of_getElem? (i := 35) rfl))) (mvT hZ (hw _ (List.mem_of_getElem? (i := 36) rfl))) (notFace_of_selects (args := #[]) (mvT hZ (hw _ (List.mem_of_getElem? (i := 38) rfl)))) (mvT hZ (hw _ (List.mem_of_getElem? (i := 38) rfl))) (mvT hZ (hw _ (List.mem_of_getElem? (i := 37) rfl))) (by decide) (backOf (W := 0) (rm7 l Z A0 hw [] b64 b66 (2 : Int32) b67 (8 : Int32) (own_upd (own_upd (own_upd (fun _ => (0 : Int32)) 0 p0) 1 p1) 2 p2) T89.heap n0 Z89 F90 F91 F94 (by decide)) hZ (hw _ (List.mem_of_getElem? (i := 39) rfl)) (hw _ (List.mem_of_getElem? (i := 3) rfl)) (by decide) (by decide)) q95a q95c (g := (mkF m 144 #[.val (.int p0), .val (.int p1), .val (.int p2), .val (.int p3), .val (.int p4), .val (.int (3 : Int32)), .val (.ref b64), .val (.int p2), .val (.int p2), .val (.int (1 : Int32)), .val (.int p1)] [(.ref b64)])) rfl (by rw [hml]; rfl) (Steps.refl _) (argsL := []) (rest := []) (lenOf pd_20 rfl) rfl (by show 2 * 0 + _ ≤ _; exact Nat.le_of_eq rfl) (hb hby at_144) (fun _ _ => ⟨rfl, eq93, (by decide : 2 + 0 ≤ _), (by decide : 10 + 0 ≤ _)⟩)
    dsimp only [Pt.U, Pt.locs, Pt.cells, Pt.slots] at X95 l95 y95 z95 st95 hQ95
    subst l95 y95 z95
    obtain ⟨rfl, Nq95, eq95⟩ := hQ95
    have N95 := Fr.app N93 Nq95
    refine own_by (fun _ k => st95.trans k) ?_
    show own_Go p e below _ (T95.setTop (mkF m 147 #[.val (.int p0), .val (.int p1), .val (.int p2), .val (.int p3), .val (.int p4), .val (.int (3 : Int32)), .val (.ref b64), .val (.int p2), .val (.int p2), .val (.int (1 : Int32)), .val (.int p1)] [(.int p1)]))
    refine own_by (fun _ k => XS.iload X95.here hx rfl (hb hby at_147) rfl k) ?_
    show own_Go p e below _ (T95.setTop (mkF m 149 #[.val (.int p0), .val (.int p1), .val (.int p2), .val (.int p3), .val (.int p4), .val (.int (3 : Int32)), .val (.ref b64), .val (.int p2), .val (.int p2), .val (.int (1 : Int32)), .val (.int p1)] [(.int p1), (.int p1)]))
    refine own_by (fun _ k => XS.icmpNo X95.here hx rfl (hb hby at_149) rfl (teq (rfl : p1 = p1)).2 k) ?_
    show own_Go p e below _ (T95.setTop (mkF m 152 #[.val (.int p0), .val (.int p1), .val (.int p2), .val (.int p3), .val (.int p4), .val (.int (3 : Int32)), .val (.ref b64), .val (.int p2), .val (.int p2), .val (.int (1 : Int32)), .val (.int p1)] []))
    refine own_by (fun _ k => XS.iconst X95.here hx rfl (hb hby at_152) k) ?_
    show own_Go p e below _ (T95.setTop (mkF m 153 #[.val (.int p0), .val (.int p1), .val (.int p2), .val (.int p3), .val (.int p4), .val (.int (3 : Int32)), .val (.ref b64), .val (.int p2), .val (.int p2), .val (.int (1 : Int32)), .val (.int p1)] [(.int (1 : Int32))]))
    refine own_by (fun _ k => XS.goto X95.here hx rfl (pc0 := 153) (pc' := 157) rfl (hb hby at_153) (by decide) (by decide) k) ?_
    show own_Go p e below _ (T95.setTop (mkF m 157 #[.val (.int p0), .val (.int p1), .val (.int p2), .val (.int p3), .val (.int p4), .val (.int (3 : Int32)), .val (.ref b64), .val (.int p2), .val (.int p2), .val (.int (1 : Int32)), .val (.int p1)] [(.int (1 : Int32))]))
    refine own_by (fun _ k => XS.istore X95.here hx rfl (hb hby at_157) rfl (l' := #[.val (.int p0), .val (.int p1), .val (.int p2), .val (.int p3), .val (.int p4), .val (.int (3 : Int32)), .val (.ref b64), .val (.int p2), .val (.int p2), .val (.int (1 : Int32)), .val (.int p1)]) rfl k) ?_
    show own_Go p e below _ (T95.setTop (mkF m 159 #[.val (.int p0), .val (.int p1), .val (.int p2), .val (.int p3), .val (.int p4), .val (.int (3 : Int32)), .val (.ref b64), .val (.int p2), .val (.int p2), .val (.int (1 : Int32)), .val (.int p1)] []))
    refine own_by (fun _ k => XS.aload X95.here hx rfl (hb hby at_159) rfl rfl k) ?_
    show own_Go p e below _ (T95.setTop (mkF m 161 #[.val (.int p0), .val (.int p1), .val (.int p2), .val (.int p3), .val (.int p4), .val (.int (3 : Int32)), .val (.ref b64), .val (.int p2), .val (.int p2), .val (.int (1 : Int32)), .val (.int p1)] [(.ref b64)]))
    refine own_by (fun _ k => XS.iloadN X95.here hx rfl (hb hby at_161) rfl k) ?_
    show own_Go p e below _ (T95.setTop (mkF m 162 #[.val (.int p0), .val (.int p1), .val (.int p2), .val (.int p3), .val (.int p4), .val (.int (3 : Int32)), .val (.ref b64), .val (.int p2), .val (.int p2), .val (.int (1 : Int32)), .val (.int p1)] [(.int p3), (.ref b64)]))
    obtain ⟨cq96, kq96, q96a, q96b, q96c⟩ := isOf hZ eq95 F92
    obtain ⟨_, _, ⟨T96, L96, k96, n96⟩, -, X96, ⟨Lc96, hQ96, l96, y96, z96⟩, st96⟩ := X95.virtualBack hx (y := (⟨"com/example/margay/margay/index/IntList", "add", "(I)V"⟩ : MethodName)) (z := (⟨"com/example/margay/margay/index/IntList", "add", "(I)V"⟩ : MethodName)) hown (mvT hZ (hw _ (List.mem_of_getElem? (i := 13) rfl))) (mvT hZ (hw _ (List.mem_of_getElem? (i := 14) rfl))) (notFace_of_selects (args := #[]) (mvT hZ (hw _ (List.mem_of_getElem? (i := 16) rfl)))) (mvT hZ (hw _ (List.mem_of_getElem? (i := 16) rfl))) (mvT hZ (hw _ (List.mem_of_getElem? (i := 15) rfl))) (by decide) (backOf (W := 0) (rm3 l Z A0 hw [] b64 p3 (2 : Int32) b66 b67 (8 : Int32) (own_upd (own_upd (own_upd (fun _ => (0 : Int32)) 0 p0) 1 p1) 2 p2) T89.heap n0 Z89 F91 F90 F94 (by decide) F92 ge_b64 (by decide) hp71) hZ (hw _ (List.mem_of_getElem? (i := 17) rfl)) (hw _ (List.mem_of_getElem? (i := 3) rfl)) (by decide) (by decide)) q96a q96c (g := (mkF m 162 #[.val (.int p0), .val (.int p1), .val (.int p2), .val (.int p3), .val (.int p4), .val (.int (3 : Int32)), .val (.ref b64), .val (.int p2), .val (.int p2), .val (.int (1 : Int32)), .val (.int p1)] [(.int p3), (.ref b64)])) rfl (by rw [hml]; rfl) (Steps.refl _) (argsL := [(.int p3)]) (rest := []) (lenOf pd_13 rfl) rfl (by show 2 * 0 + _ ≤ _; exact Nat.le_of_eq rfl) (hb hby at_162) (fun _ _ => ⟨rfl, eq95, (by decide : 2 + 0 ≤ _), (by decide : 10 + 0 ≤ _)⟩)
    dsimp only [Pt.U, Pt.locs, Pt.cells, Pt.slots] at X96 l96 y96 z96 st96 hQ96
    subst l96 y96 z96
    obtain ⟨rfl, Nq96, Kq96, F97, F98, F99, F100⟩ := hQ96
    have N96 := Fr.app N95 Nq96
    have K96 : Keep h0 T96.heap [] := K89.trans Kq96 ((allS (Or.inr sz_b64) (allS (Or.inr sz_b66) all0)))
    have Z96 : n0 ≤ T96.heap.size := Nat.le_trans Z89 Kq96.1
    refine own_by (fun _ k => st96.trans k) ?_
    show own_Go p e below _ (T96.setTop (mkF m 165 #[.val (.int p0), .val (.int p1), .val (.int p2), .val (.int p3), .val (.int p4), .val (.int (3 : Int32)), .val (.ref b64), .val (.int p2), .val (.int p2), .val (.int (1 : Int32)), .val (.int p1)] []))
    refine own_by (fun _ k => XS.iload X96.here hx rfl (hb hby at_165) rfl k) ?_
    show own_Go p e below _ (T96.setTop (mkF m 167 #[.val (.int p0), .val (.int p1), .val (.int p2), .val (.int p3), .val (.int p4), .val (.int (3 : Int32)), .val (.ref b64), .val (.int p2), .val (.int p2), .val (.int (1 : Int32)), .val (.int p1)] [(.int (1 : Int32))]))
    refine own_by (fun _ k => XS.ifNo X96.here hx rfl (hb hby at_167) rfl ((if0 _ _).trans (feq (by decide : ¬ ((1 : Int32) = (0 : Int32)))).1) k) ?_
    show own_Go p e below _ (T96.setTop (mkF m 170 #[.val (.int p0), .val (.int p1), .val (.int p2), .val (.int p3), .val (.int p4), .val (.int (3 : Int32)), .val (.ref b64), .val (.int p2), .val (.int p2), .val (.int (1 : Int32)), .val (.int p1)] []))
    refine own_by (fun _ k => XS.aload X96.here hx rfl (hb hby at_170) rfl rfl k) ?_
    show own_Go p e below _ (T96.setTop (mkF m 172 #[.val (.int p0), .val (.int p1), .val (.int p2), .val (.int p3), .val (.int p4), .val (.int (3 : Int32)), .val (.ref b64), .val (.int p2), .val (.int p2), .val (.int (1 : Int32)), .val (.int p1)] [(.ref b64)]))
    obtain ⟨cq101, kq101, q101a, q101b, q101c⟩ := isOf hZ rfl F99
    obtain ⟨_, _, ⟨T101, L101, k101, n101⟩, -, X101, ⟨Lc101, hQ101, l101, y101, z101⟩, st101⟩ := X96.virtualBack hx (y := (⟨"com/example/margay/margay/index/IntList", "size", "()I"⟩ : MethodName)) (z := (⟨"com/example/margay/margay/index/IntList", "size", "()I"⟩ : MethodName)) hown (mvT hZ (hw _ (List.mem_of_getElem? (i := 25) rfl))) (mvT hZ (hw _ (List.mem_of_getElem? (i := 26) rfl))) (notFace_of_selects (args := #[]) (mvT hZ (hw _ (List.mem_of_getElem? (i := 28) rfl)))) (mvT hZ (hw _ (List.mem_of_getElem? (i := 28) rfl))) (mvT hZ (hw _ (List.mem_of_getElem? (i := 27) rfl))) (by decide) (backOf (W := 0) (rm5 l Z A0 hw [] b64 (3 : Int32) T96.heap n0 Z96 F97) hZ (hw _ (List.mem_of_getElem? (i := 29) rfl)) (hw _ (List.mem_of_getElem? (i := 3) rfl)) (by decide) (by decide)) q101a q101c (g := (mkF m 172 #[.val (.int p0), .val (.int p1), .val (.int p2), .val (.int p3), .val (.int p4), .val (.int (3 : Int32)), .val (.ref b64), .val (.int p2), .val (.int p2), .val (.int (1 : Int32)), .val (.int p1)] [(.ref b64)])) rfl (by rw [hml]; rfl) (Steps.refl _) (argsL := []) (rest := []) (lenOf pd_20 rfl) rfl (by show 2 * 0 + _ ≤ _; exact Nat.le_of_eq rfl) (hb hby at_172) (fun _ _ => ⟨rfl, rfl, (by decide : 2 + 0 ≤ _), (by decide : 10 + 0 ≤ _)⟩)
    dsimp only [Pt.U, Pt.locs, Pt.cells, Pt.slots] at X101 l101 y101 z101 st101 hQ101
    subst l101 y101 z101
    obtain ⟨rfl, Nq101, eq101⟩ := hQ101
    have N101 := Fr.app N96 Nq101
    refine own_by (fun _ k => st101.trans k) ?_
    show own_Go p e below _ (T101.setTop (mkF m 175 #[.val (.int p0), .val (.int p1), .val (.int p2), .val (.int p3), .val (.int p4), .val (.int (3 : Int32)), .val (.ref b64), .val (.int p2), .val (.int p2), .val (.int (1 : Int32)), .val (.int p1)] [(.int (3 : Int32))]))
    refine own_by (fun _ k => XS.iload X101.here hx rfl (hb hby at_175) rfl k) ?_
    show own_Go p e below _ (T101.setTop (mkF m 177 #[.val (.int p0), .val (.int p1), .val (.int p2), .val (.int p3), .val (.int p4), .val (.int (3 : Int32)), .val (.ref b64), .val (.int p2), .val (.int p2), .val (.int (1 : Int32)), .val (.int p1)] [(.int (3 : Int32)), (.int (3 : Int32))]))
    refine own_by (fun _ k => XS.icmpNo X101.here hx rfl (hb hby at_177) rfl (teq (by decide : (3 : Int32) = (3 : Int32))).2 k) ?_
    show own_Go p e below _ (T101.setTop (mkF m 180 #[.val (.int p0), .val (.int p1), .val (.int p2), .val (.int p3), .val (.int p4), .val (.int (3 : Int32)), .val (.ref b64), .val (.int p2), .val (.int p2), .val (.int (1 : Int32)), .val (.int p1)] []))
    refine own_by (fun _ k => XS.iconst X101.here hx rfl (hb hby at_180) k) ?_
    show own_Go p e below _ (T101.setTop (mkF m 181 #[.val (.int p0), .val (.int p1), .val (.int p2), .val (.int p3), .val (.int p4), .val (.int (3 : Int32)), .val (.ref b64), .val (.int p2), .val (.int p2), .val (.int (1 : Int32)), .val (.int p1)] [(.int (1 : Int32))]))
    refine own_by (fun _ k => XS.goto X101.here hx rfl (pc0 := 181) (pc' := 185) rfl (hb hby at_181) (by decide) (by decide) k) ?_
    show own_Go p e below _ (T101.setTop (mkF m 185 #[.val (.int p0), .val (.int p1), .val (.int p2), .val (.int p3), .val (.int p4), .val (.int (3 : Int32)), .val (.ref b64), .val (.int p2), .val (.int p2), .val (.int (1 : Int32)), .val (.int p1)] [(.int (1 : Int32))]))
    refine own_by (fun _ k => XS.istore X101.here hx rfl (hb hby at_185) rfl (l' := #[.val (.int p0), .val (.int p1), .val (.int p2), .val (.int p3), .val (.int p4), .val (.int (3 : Int32)), .val (.ref b64), .val (.int p2), .val (.int p2), .val (.int (1 : Int32)), .val (.int p1)]) rfl k) ?_
    show own_Go p e below _ (T101.setTop (mkF m 187 #[.val (.int p0), .val (.int p1), .val (.int p2), .val (.int p3), .val (.int p4), .val (.int (3 : Int32)), .val (.ref b64), .val (.int p2), .val (.int p2), .val (.int (1 : Int32)), .val (.int p1)] []))
    refine own_by (fun _ k => XS.iload X101.here hx rfl (hb hby at_187) rfl k) ?_
    show own_Go p e below _ (T101.setTop (mkF m 189 #[.val (.int p0), .val (.int p1), .val (.int p2), .val (.int p3), .val (.int p4), .val (.int (3 : Int32)), .val (.ref b64), .val (.int p2), .val (.int p2), .val (.int (1 : Int32)), .val (.int p1)] [(.int (1 : Int32))]))
    refine own_by (fun _ k => XS.ifNo X101.here hx rfl (hb hby at_189) rfl ((if0 _ _).trans (feq (by decide : ¬ ((1 : Int32) = (0 : Int32)))).1) k) ?_
    show own_Go p e below _ (T101.setTop (mkF m 192 #[.val (.int p0), .val (.int p1), .val (.int p2), .val (.int p3), .val (.int p4), .val (.int (3 : Int32)), .val (.ref b64), .val (.int p2), .val (.int p2), .val (.int (1 : Int32)), .val (.int p1)] []))
    refine own_by (fun _ k => XS.aload X101.here hx rfl (hb hby at_192) rfl rfl k) ?_
    show own_Go p e below _ (T101.setTop (mkF m 194 #[.val (.int p0), .val (.int p1), .val (.int p2), .val (.int p3), .val (.int p4), .val (.int (3 : Int32)), .val (.ref b64), .val (.int p2), .val (.int p2), .val (.int (1 : Int32)), .val (.int p1)] [(.ref b64)]))
    refine own_by (fun _ k => XS.iload X101.here hx rfl (hb hby at_194) rfl k) ?_
    show own_Go p e below _ (T101.setTop (mkF m 196 #[.val (.int p0), .val (.int p1), .val (.int p2), .val (.int p3), .val (.int p4), .val (.int (3 : Int32)), .val (.ref b64), .val (.int p2), .val (.int p2), .val (.int (1 : Int32)), .val (.int p1)] [(.int (3 : Int32)), (.ref b64)]))
    refine own_by (fun _ k => XS.iconst X101.here hx rfl (hb hby at_196) k) ?_
    show own_Go p e below _ (T101.setTop (mkF m 197 #[.val (.int p0), .val (.int p1), .val (.int p2), .val (.int p3), .val (.int p4), .val (.int (3 : Int32)), .val (.ref b64), .val (.int p2), .val (.int p2), .val (.int (1 : Int32)), .val (.int p1)] [(.int (1 : Int32)), (.int (3 : Int32)), (.ref b64)]))
    refine own_by (fun _ k => XS.isub X101.here hx rfl (hb hby at_197) rfl k) ?_
    show own_Go p e below _ (T101.setTop (mkF m 198 #[.val (.int p0), .val (.int p1), .val (.int p2), .val (.int p3), .val (.int p4), .val (.int (3 : Int32)), .val (.ref b64), .val (.int p2), .val (.int p2), .val (.int (1 : Int32)), .val (.int p1)] [(.int (2 : Int32)), (.ref b64)]))
    obtain ⟨cq102, kq102, q102a, q102b, q102c⟩ := isOf hZ eq101 F99
    obtain ⟨_, _, ⟨T102, L102, k102, n102⟩, -, X102, ⟨Lc102, hQ102, l102, y102, z102⟩, st102⟩ := X101.virtualBack hx (y := (⟨"com/example/margay/margay/index/IntList", "get", "(I)I"⟩ : MethodName)) (z := (⟨"com/example/margay/margay/index/IntList", "get", "(I)I"⟩ : MethodName)) hown (mvT hZ (hw _ (List.mem_of_getElem? (i := 30) rfl))) (mvT hZ (hw _ (List.mem_of_getElem? (i := 31) rfl))) (notFace_of_selects (args := #[]) (mvT hZ (hw _ (List.mem_of_getElem? (i := 33) rfl)))) (mvT hZ (hw _ (List.mem_of_getElem? (i := 33) rfl))) (mvT hZ (hw _ (List.mem_of_getElem? (i := 32) rfl))) (by decide) (backOf (W := 0) (rm6 l Z A0 hw [] b64 (2 : Int32) b66 b67 (8 : Int32) (own_upd (own_upd (own_upd (own_upd (fun _ => (0 : Int32)) 0 p0) 1 p1) 2 p2) 2 p3) T96.heap n0 Z96 F98 F100 (by decide)) hZ (hw _ (List.mem_of_getElem? (i := 34) rfl)) (hw _ (List.mem_of_getElem? (i := 3) rfl)) (by decide) (by decide)) q102a q102c (g := (mkF m 198 #[.val (.int p0), .val (.int p1), .val (.int p2), .val (.int p3), .val (.int p4), .val (.int (3 : Int32)), .val (.ref b64), .val (.int p2), .val (.int p2), .val (.int (1 : Int32)), .val (.int p1)] [(.int (2 : Int32)), (.ref b64)])) rfl (by rw [hml]; rfl) (Steps.refl _) (argsL := [(.int (2 : Int32))]) (rest := []) (lenOf pd_30 rfl) rfl (by show 2 * 0 + _ ≤ _; exact Nat.le_of_eq rfl) (hb hby at_198) (fun _ _ => ⟨rfl, eq101, (by decide : 2 + 0 ≤ _), (by decide : 10 + 0 ≤ _)⟩)
    dsimp only [Pt.U, Pt.locs, Pt.cells, Pt.slots] at X102 l102 y102 z102 st102 hQ102
    subst l102 y102 z102
    obtain ⟨rfl, Nq102, eq102⟩ := hQ102
    have N102 := Fr.app N101 Nq102
    refine own_by (fun _ k => st102.trans k) ?_
    show own_Go p e below _ (T102.setTop (mkF m 201 #[.val (.int p0), .val (.int p1), .val (.int p2), .val (.int p3), .val (.int p4), .val (.int (3 : Int32)), .val (.ref b64), .val (.int p2), .val (.int p2), .val (.int (1 : Int32)), .val (.int p1)] [(.int p3)]))
    refine own_by (fun _ k => XS.iloadN X102.here hx rfl (hb hby at_201) rfl k) ?_
    show own_Go p e below _ (T102.setTop (mkF m 202 #[.val (.int p0), .val (.int p1), .val (.int p2), .val (.int p3), .val (.int p4), .val (.int (3 : Int32)), .val (.ref b64), .val (.int p2), .val (.int p2), .val (.int (1 : Int32)), .val (.int p1)] [(.int p3), (.int p3)]))
    refine own_by (fun _ k => XS.icmpNo X102.here hx rfl (hb hby at_202) rfl (teq (rfl : p3 = p3)).2 k) ?_
    show own_Go p e below _ (T102.setTop (mkF m 205 #[.val (.int p0), .val (.int p1), .val (.int p2), .val (.int p3), .val (.int p4), .val (.int (3 : Int32)), .val (.ref b64), .val (.int p2), .val (.int p2), .val (.int (1 : Int32)), .val (.int p1)] []))
    refine own_by (fun _ k => XS.iconst X102.here hx rfl (hb hby at_205) k) ?_
    show own_Go p e below _ (T102.setTop (mkF m 206 #[.val (.int p0), .val (.int p1), .val (.int p2), .val (.int p3), .val (.int p4), .val (.int (3 : Int32)), .val (.ref b64), .val (.int p2), .val (.int p2), .val (.int (1 : Int32)), .val (.int p1)] [(.int (1 : Int32))]))
    refine own_by (fun _ k => XS.goto X102.here hx rfl (pc0 := 206) (pc' := 210) rfl (hb hby at_206) (by decide) (by decide) k) ?_
    show own_Go p e below _ (T102.setTop (mkF m 210 #[.val (.int p0), .val (.int p1), .val (.int p2), .val (.int p3), .val (.int p4), .val (.int (3 : Int32)), .val (.ref b64), .val (.int p2), .val (.int p2), .val (.int (1 : Int32)), .val (.int p1)] [(.int (1 : Int32))]))
    refine own_by (fun _ k => XS.istore X102.here hx rfl (hb hby at_210) rfl (l' := #[.val (.int p0), .val (.int p1), .val (.int p2), .val (.int p3), .val (.int p4), .val (.int (3 : Int32)), .val (.ref b64), .val (.int p2), .val (.int p2), .val (.int (1 : Int32)), .val (.int p1)]) rfl k) ?_
    show own_Go p e below _ (T102.setTop (mkF m 212 #[.val (.int p0), .val (.int p1), .val (.int p2), .val (.int p3), .val (.int p4), .val (.int (3 : Int32)), .val (.ref b64), .val (.int p2), .val (.int p2), .val (.int (1 : Int32)), .val (.int p1)] []))
    refine own_by (fun _ k => XS.iload X102.here hx rfl (hb hby at_212) rfl k) ?_
    show own_Go p e below _ (T102.setTop (mkF m 214 #[.val (.int p0), .val (.int p1), .val (.int p2), .val (.int p3), .val (.int p4), .val (.int (3 : Int32)), .val (.ref b64), .val (.int p2), .val (.int p2), .val (.int (1 : Int32)), .val (.int p1)] [(.int (1 : Int32))]))
    exact own_retN X102 hx (t := .boolean) Bd.returns (by simp) (hb hby at_214) hlk eq102 ⟨rfl, N102⟩ (by decide) (by decide)
set_option maxRecDepth 65536 in
set_option maxHeartbeats 40000000 in
theorem comes_1 {Post : Tables → Env → Array Value → State → Outcome → State → Prop} (hpost : ∀ tb e args s v u, (limb_1_1.after args s (.returned v) u = true ∧ limb_1_2.after args s (.returned v) u = true ∧ True) → FrameEnd s (.returned v) u (Jvm.fieldLocs frame_1_writes args s ++ Jvm.arrayLocs frame_1_arrays args s ++ Jvm.staticLocs frame_1_statics s) 16 128 → Post tb e args s (.returned v) u) :
    ArmFor flags0 classFile x code maxLocals ret World_1 tables_1 room_1 Calls_1 rest_1 Pre_1 Post := by
  intro l hfl _ _ p e ha hc hk s m args below hf hA hF happ hP
  obtain ⟨hcalls, hrest, hpre⟩ := hP
  obtain ⟨-, -, -, hnamed, -, -, -, hat⟩ := (Spec.applies_iff hf).mp happ
  obtain ⟨hg, hn⟩ := and_e (Cond.before_iff.mp (show (Jvm.Cond.and given_1 narrow_1).before args s = true from hpre))
  obtain ⟨g0, r0⟩ := and_e hg
  obtain ⟨ga0, r1⟩ := and_e r0
  obtain ⟨ga1, r2⟩ := and_e r1
  obtain ⟨ga2, r3⟩ := and_e r2
  obtain ⟨ga3, r4⟩ := and_e r3
  obtain ⟨w0, w1, w2, w3, w4, rfl⟩ : ∃ w0 w1 w2 w3 w4 : Value, args = #[w0, w1, w2, w3, w4] := by
    have hs : args.size = 5 := by simpa [Cond.value, given_1] using g0
    obtain ⟨L⟩ := args
    match L, hs with
    | [w0, w1, w2, w3, w4], _ => exact ⟨w0, w1, w2, w3, w4, rfl⟩
  have hw := fun d (hd : d ∈ tables_1) => atoms_spec (ws := Jvm.Cond.code x code maxLocals ret :: tables_1) hat d (List.mem_cons_of_mem _ hd)
  have hfit : Fit s := fun {y c} hc i hi => by
    obtain ⟨ha, rfl⟩ := Array.getElem?_eq_some_iff.mp hc
    have q := List.all_eq_true.mp ((Array.all_eq_true_iff_forall_mem.mp hF) _ (Array.getElem_mem ha)) i (List.mem_range.mpr hi)
    simpa [Array.getElem?_eq_getElem hi] using q
  obtain ⟨i0, ei0⟩ := is_v ga0
  obtain rfl : w0 = (.int i0) := Option.some.inj ei0
  obtain ⟨i1, ei1⟩ := is_v ga1
  obtain rfl : w1 = (.int i1) := Option.some.inj ei1
  obtain ⟨i2, ei2⟩ := is_v ga2
  obtain rfl : w2 = (.int i2) := Option.some.inj ei2
  obtain ⟨i3, ei3⟩ := is_v ga3
  obtain rfl : w3 = (.int i3) := Option.some.inj ei3
  obtain ⟨i4, ei4⟩ := is_v r4
  obtain rfl : w4 = (.int i4) := Option.some.inj ei4
  obtain ⟨n, o, h1, h2, h3, _, L, rfl, ⟨rfl, N⟩, hq⟩ := rm0 l s _ hw tables_1 i0 i1 i2 i3 i4  s.heap s.heap.size (Nat.le_refl _)  p e ha hc hk s m _ below hf ((Spec.applies_iff_loose hf).mp happ).1 ⟨rfl, State.Warmed39.refl s, rfl⟩ trivial
  refine ⟨n, _, h1, h2, h3, hpost _ _ _ _ _ _ ⟨Cond.after_iff.mpr rfl, Cond.after_iff.mpr (eq_i res_at (Term.int_eval (1)) rfl), trivial⟩ ⟨hq.1, hq.2.1, (hq.2.2.sift fun y hy => Or.inr (N y hy)).mono (by decide) (by decide)⟩⟩
theorem main_1_1 : Claimed_1_1 := comes_1 fun _ _ _ _ _ _ h hF => ⟨h.1, hF⟩
theorem main_1_2 : Claimed_1_2 := comes_1 fun _ _ _ _ _ _ h hF => ⟨h.2.1, hF⟩
end Jvm.Pilot.@@N@@
namespace Jvm.Pilot.@@N@@
open Jvm Jvm.ClassFile Sem Op Lib Jvm.Free Jvm.Stand Jvm.Pilot.@@N@@.Jvm.D
/-! MADE BY PROGRAM (witnessworld.py) out of the Statement's table words and the real class files: 9 classes; the members and pool entries that the words name. The judged class is class 1, her method 1. -/
namespace start1
open Jvm.ClassFile
def u (s : String) : CpInfo := .utf8 (stringToUtf16 s)
/-- a pool by its gaps: so many unusable entries, then the entry; so many at the end -/
def gap : Nat → List CpInfo → List CpInfo
  | 0, r => r
  | n + 1, r => .unusable :: gap n r
def poolList (es : List (Nat × CpInfo)) (last : Nat) : List CpInfo := es.foldr (fun e r => gap e.1 (e.2 :: r)) (gap last [])
def pool (es : List (Nat × CpInfo)) (last : Nat) : Array CpInfo := ⟨poolList es last⟩
def fileOf (pool : Array CpInfo) (this : Nat) (attrs : Array Attribute := #[]) (ms : Array MethodInfo := #[]) (fl : Nat := 33) (sup : Nat := 0) (ifs : Array Nat := #[]) (fds : Array FieldInfo := #[]) : ClassFile where
  minorVersion := 0
  majorVersion := 65
  constantPool := pool
  accessFlags := fl
  thisClass := this
  superClass := sup
  interfaces := ifs
  fields := fds
  methods := ms
  attributes := attrs
def plain (name : String) (sup : Option ClassId) : Class where
  name := name
  kind := .ordinary
  loader := none
  accessFlags := 33
  super := sup
  interfaces := #[]
  cf := none
  fields := #[]
  methods := #[]
  instanceTypes := #[]
  staticTypes := #[]
  resolved := #[]
  callSites := []
  init := .initialized
  statics := none
  mirror := none

def pool0 : Array CpInfo := pool [(5, u "<init>"), (0, u "()V"), (1, .class_ 10), (1, u "java/lang/Object")] 113

def k0c0 : Code := { maxStack := 0, maxLocals := 1, code := object_method_1_code, exceptionTable := #[], attributes := #[] }
def k0m0 : Method := { name := "<init>", desc := "()V", sig := { parameters := [], returnType := none }, accessFlags := 1, code := some k0c0 }
/-- java/lang/Object -/
def k0 : Class := { plain "java/lang/Object" none with
  accessFlags := 33
  interfaces := #[]
  cf := some (fileOf pool0 8 #[] #[{ accessFlags := 1, nameIndex := 5, descriptorIndex := 6, attributes := #[] }] 33 0 #[] #[])
  fields := #[]
  methods := #[k0m0]
  instanceTypes := #[]
  staticTypes := #[]
  resolved := Array.replicate 124 none
  statics := none }

def pool1 : Array CpInfo := pool [(2, .class_ 4), (0, .nameAndType 5 6), (0, u "java/lang/Object"), (0, u "<init>"), (0, u "()V"), (0, .integer 2147483647), (0, .class_ 9), (0, u "com/example/margay/margay/index/IntList"), (0, .methodref 8 3), (0, .methodref 8 12), (0, .nameAndType 13 14), (0, u "add"), (0, u "(I)V"), (0, .methodref 8 16), (0, .nameAndType 17 18), (0, u "removeLast"), (0, u "()I"), (0, .methodref 8 20), (0, .nameAndType 21 18), (0, u "size"), (0, .methodref 8 23), (0, .nameAndType 24 18), (0, u "last"), (0, .methodref 8 26), (0, .nameAndType 27 28), (0, u "get"), (0, u "(I)I"), (0, .class_ 30), (0, u "com/example/margay/margay/index/IntListRemoveLastPinLaw"), (2, u "law"), (0, u "(IIIII)Z")] 3

def k1m0 : Method := { name := "<init>", desc := "()V", sig := { parameters := [], returnType := none }, accessFlags := 2, code := none }
def k1c1 : Code := { maxStack := 3, maxLocals := 11, code := code, exceptionTable := #[], attributes := #[] }
def k1m1 : Method := { name := "law", desc := "(IIIII)Z", sig := { parameters := [.int, .int, .int, .int, .int], returnType := some .boolean }, accessFlags := 9, code := some k1c1 }
/-- com/example/margay/margay/index/IntListRemoveLastPinLaw -/
def k1 : Class := { plain "com/example/margay/margay/index/IntListRemoveLastPinLaw" (some 0) with
  accessFlags := 49
  interfaces := #[]
  cf := some (fileOf pool1 29 #[] #[{ accessFlags := 2, nameIndex := 5, descriptorIndex := 6, attributes := #[] }, { accessFlags := 9, nameIndex := 33, descriptorIndex := 34, attributes := #[] }] 49 2 #[] #[])
  fields := #[]
  methods := #[k1m0, k1m1]
  instanceTypes := #[]
  staticTypes := #[]
  resolved := Array.replicate 38 none
  statics := none }

def pool2 : Array CpInfo := pool [(1, .methodref 2 3), (0, .class_ 4), (0, .nameAndType 5 6), (0, u "java/lang/Object"), (0, u "<init>"), (0, u "()V"), (0, .fieldref 8 9), (0, .class_ 10), (0, .nameAndType 11 12), (0, u "com/example/margay/margay/index/IntList"), (0, u "values"), (0, u "[I"), (0, .fieldref 8 14), (0, .nameAndType 15 16), (0, u "size"), (0, u "I"), (14, u "add"), (0, u "(I)V"), (1, u "get"), (0, u "(I)I"), (2, u "()I"), (0, u "last"), (0, u "removeLast")] 4

def k2c0 : Code := { maxStack := 2, maxLocals := 1, code := prog_50_method_1_code, exceptionTable := #[], attributes := #[] }
def k2m0 : Method := { name := "<init>", desc := "()V", sig := { parameters := [], returnType := none }, accessFlags := 0, code := some k2c0 }
def k2c1 : Code := { maxStack := 7, maxLocals := 2, code := prog_50_method_2_code, exceptionTable := #[], attributes := #[] }
def k2m1 : Method := { name := "add", desc := "(I)V", sig := { parameters := [.int], returnType := none }, accessFlags := 0, code := some k2c1 }
def k2c2 : Code := { maxStack := 2, maxLocals := 2, code := prog_50_method_3_code, exceptionTable := #[], attributes := #[] }
def k2m2 : Method := { name := "get", desc := "(I)I", sig := { parameters := [.int], returnType := some .int }, accessFlags := 0, code := some k2c2 }
def k2c3 : Code := { maxStack := 1, maxLocals := 1, code := prog_50_method_5_code, exceptionTable := #[], attributes := #[] }
def k2m3 : Method := { name := "size", desc := "()I", sig := { parameters := [], returnType := some .int }, accessFlags := 0, code := some k2c3 }
def k2c4 : Code := { maxStack := 3, maxLocals := 1, code := prog_50_method_6_code, exceptionTable := #[], attributes := #[] }
def k2m4 : Method := { name := "last", desc := "()I", sig := { parameters := [], returnType := some .int }, accessFlags := 0, code := some k2c4 }
def k2c5 : Code := { maxStack := 4, maxLocals := 1, code := prog_50_method_7_code, exceptionTable := #[], attributes := #[] }
def k2m5 : Method := { name := "removeLast", desc := "()I", sig := { parameters := [], returnType := some .int }, accessFlags := 0, code := some k2c5 }
/-- com/example/margay/margay/index/IntList -/
def k2 : Class := { plain "com/example/margay/margay/index/IntList" (some 0) with
  accessFlags := 48
  interfaces := #[]
  cf := some (fileOf pool2 8 #[] #[{ accessFlags := 0, nameIndex := 5, descriptorIndex := 6, attributes := #[] }, { accessFlags := 0, nameIndex := 31, descriptorIndex := 32, attributes := #[] }, { accessFlags := 0, nameIndex := 34, descriptorIndex := 35, attributes := #[] }, { accessFlags := 0, nameIndex := 15, descriptorIndex := 38, attributes := #[] }, { accessFlags := 0, nameIndex := 39, descriptorIndex := 38, attributes := #[] }, { accessFlags := 0, nameIndex := 40, descriptorIndex := 38, attributes := #[] }] 48 2 #[] #[{ accessFlags := 2, nameIndex := 11, descriptorIndex := 12, attributes := #[] }, { accessFlags := 2, nameIndex := 15, descriptorIndex := 16, attributes := #[] }])
  fields := #[{ name := "values", type := (.array .int), accessFlags := 2, slot := 0, constantValue := 0 }, { name := "size", type := .int, accessFlags := 2, slot := 1, constantValue := 0 }]
  methods := #[k2m0, k2m1, k2m2, k2m3, k2m4, k2m5]
  instanceTypes := #[(.array .int), .int]
  staticTypes := #[]
  resolved := Array.replicate 45 none
  statics := none }

def pool3 : Array CpInfo := pool [(1, u "java/lang/Cloneable"), (0, .class_ 1), (0, u "java/lang/Object"), (0, .class_ 3)] 3

/-- java/lang/Cloneable -/
def k3 : Class := { plain "java/lang/Cloneable" (some 0) with
  accessFlags := 1537
  interfaces := #[]
  cf := some (fileOf pool3 2 #[] #[] 1537 4 #[] #[])
  fields := #[]
  methods := #[]
  instanceTypes := #[]
  staticTypes := #[]
  resolved := Array.replicate 8 none
  statics := none }

def pool4 : Array CpInfo := pool [(1, u "java/io/Serializable"), (0, .class_ 1), (0, u "java/lang/Object"), (0, .class_ 3)] 3

/-- java/io/Serializable -/
def k4 : Class := { plain "java/io/Serializable" (some 0) with
  accessFlags := 1537
  interfaces := #[]
  cf := some (fileOf pool4 2 #[] #[] 1537 4 #[] #[])
  fields := #[]
  methods := #[]
  instanceTypes := #[]
  staticTypes := #[]
  resolved := Array.replicate 8 none
  statics := none }

/-- the primitive byte -/
def k5 : Class := { plain "byte" none with kind := .primitive 'B', accessFlags := 0x411 }
/-- [B -/
def k6 : Class := { plain "[B" (some 0) with kind := .array 5 .byte, interfaces := #[3, 4], accessFlags := 1041 }

/-- the primitive int -/
def k7 : Class := { plain "int" none with kind := .primitive 'I', accessFlags := 0x411 }
/-- [I -/
def k8 : Class := { plain "[I" (some 0) with kind := .array 7 .int, interfaces := #[3, 4], accessFlags := 1041 }

def heap : Heap := #[]
def classes : Array Class := #[k0, k1, k2, k3, k4, k5, k6, k7, k8]
def interned : List (Array UInt16 × Addr) := []
def slotsUsed : Nat := 0
def theMethod : MethodId := ⟨1, 1⟩
def args0 : Array Value := #[.int 7, .int 7, .int 3, .int 7, .int 3]
def aboutOver (below : List Frame) : State where
  vm := { classes := classes, interned := interned.toArray }
  heap := heap
  slotsUsed := slotsUsed
  threads := #[{ frames := .invoking theMethod args0 :: below }]
def below0 : List Frame := [.native { method := ⟨0, 0⟩, args := #[] }]
def about1 : State := aboutOver below0
def p0 : Program := .bare "" "" ""
def e0 : Env := launch0.env 0 0 0
theorem w_frames : about1.frames = Frame.invoking theMethod args0 :: below0 := rfl
set_option maxRecDepth 65536 in
theorem w_args : argsFit about1.vm theMethod args0 = true := by decide +kernel
set_option maxRecDepth 65536 in
theorem w_heap : heapFits about1 = true := by decide +kernel
set_option maxRecDepth 65536 in
theorem w_runnable : about1.curStatus? = some .runnable := by decide +kernel
set_option maxRecDepth 65536 in
theorem w_alone : about1.alone = true := by decide +kernel
set_option maxRecDepth 65536 in
theorem w_named : about1.methodNamed? x = some theMethod := by decide +kernel
set_option maxRecDepth 65536 in
theorem w_hears : about1.hears theMethod below0 = true := by decide +kernel
set_option maxRecDepth 65536 in
theorem w_ripe : about1.ripe theMethod args0 below0 = true := by decide +kernel
theorem w_running : about1.status = .running := rfl
set_option maxRecDepth 65536 in
theorem w_room : about1.hasRoom e0.platform room_1 = true :=
  launch0.hasRoom_least _ room_1 (by decide +kernel) (by decide +kernel) (by decide +kernel) (by decide +kernel) (by decide +kernel) (by decide +kernel)
theorem allAtoms_all (ts : List Jvm.Cond) (a : Array Jvm.Value) (st : Jvm.State) : (allAtoms ts).before a st = ts.all (fun c => c.before a st) := by
  induction ts with
  | nil => rfl
  | cons c t ih =>
    show (Jvm.Cond.and c (allAtoms t)).before a st = _
    rw [Jvm.Cond.before_and, ih, List.all_cons]
def words1 : List Jvm.Cond := Jvm.Cond.code x code maxLocals ret :: tables_1
/-- a 'code' word, met by the world's own term for the bytes: nothing is compared byte by byte -/
theorem code_word {y : MethodName} {bytes : ByteArray} {mx : Nat} {rt : Option FieldType} {a : Array Value} {s : State} {m : MethodId} {meth : Method} {c : Code} (h1 : s.methodNamed? y = some m) (h2 : s.vm.method? m = some meth) (h3 : meth.code = some c) (h4 : c.code = bytes)
    (h5 : (c.maxLocals == mx && c.exceptionTable.isEmpty && decide (c.maxStack ≤ mostOperands) && decide (meth.sig.returnType = rt) && !meth.locks && decide (parseMethodDescriptor y.desc = some meth.sig)) = true) : (Jvm.Cond.code y bytes mx rt).before a s = true := by
  simp only [Bool.and_eq_true, beq_iff_eq, Bool.not_eq_true', decide_eq_true_eq] at h5
  obtain ⟨⟨⟨⟨⟨g1, g2⟩, g3⟩, g4⟩, g5⟩, g6⟩ := h5
  simp [Cond.before, Cond.holds, Cond.value, h1, h2, h3, h4, g1, g2, g3, g4, g5, g6]
def isCode : Jvm.Cond → Bool
  | .code _ _ _ _ => true
  | _ => false
theorem all_split {L : List Jvm.Cond} {P : Jvm.Cond → Bool} (h1 : L.all (fun c => isCode c || P c) = true) (h2 : ∀ c ∈ L.filter isCode, P c = true) : L.all P = true := by
  refine List.all_eq_true.mpr fun c hc => ?_
  have h := List.all_eq_true.mp h1 c hc
  rcases Bool.eq_false_or_eq_true (isCode c) with hi | hi
  · exact h2 c (List.mem_filter.mpr ⟨hc, hi⟩)
  · simpa [hi] using h
set_option maxRecDepth 65536 in
theorem w_c0 : (Jvm.Cond.code x code maxLocals ret).before args0 about1 = true := code_word (m := ⟨1, 1⟩) (meth := k1m1) (c := k1c1) (by decide +kernel) rfl rfl rfl (by decide +kernel)
set_option maxRecDepth 65536 in
theorem w_c1 : (Jvm.Cond.code ({ cls := "com/example/margay/margay/index/IntList", name := "<init>", desc := "()V" } : Jvm.MethodName) prog_50_method_1_code (1 : Nat) (Option.none : Option Jvm.ClassFile.FieldType)).before args0 about1 = true := code_word (m := ⟨2, 0⟩) (meth := k2m0) (c := k2c0) (by decide +kernel) rfl rfl rfl (by decide +kernel)
set_option maxRecDepth 65536 in
theorem w_c2 : (Jvm.Cond.code ({ cls := "java/lang/Object", name := "<init>", desc := "()V" } : Jvm.MethodName) object_method_1_code (1 : Nat) (Option.none : Option Jvm.ClassFile.FieldType)).before args0 about1 = true := code_word (m := ⟨0, 0⟩) (meth := k0m0) (c := k0c0) (by decide +kernel) rfl rfl rfl (by decide +kernel)
set_option maxRecDepth 65536 in
theorem w_c3 : (Jvm.Cond.code ({ cls := "com/example/margay/margay/index/IntList", name := "add", desc := "(I)V" } : Jvm.MethodName) prog_50_method_2_code (2 : Nat) (Option.none : Option Jvm.ClassFile.FieldType)).before args0 about1 = true := code_word (m := ⟨2, 1⟩) (meth := k2m1) (c := k2c1) (by decide +kernel) rfl rfl rfl (by decide +kernel)
set_option maxRecDepth 65536 in
theorem w_c4 : (Jvm.Cond.code ({ cls := "com/example/margay/margay/index/IntList", name := "removeLast", desc := "()I" } : Jvm.MethodName) prog_50_method_7_code (1 : Nat) (Option.some Jvm.ClassFile.FieldType.int)).before args0 about1 = true := code_word (m := ⟨2, 5⟩) (meth := k2m5) (c := k2c5) (by decide +kernel) rfl rfl rfl (by decide +kernel)
set_option maxRecDepth 65536 in
theorem w_c5 : (Jvm.Cond.code ({ cls := "com/example/margay/margay/index/IntList", name := "size", desc := "()I" } : Jvm.MethodName) prog_50_method_5_code (1 : Nat) (Option.some Jvm.ClassFile.FieldType.int)).before args0 about1 = true := code_word (m := ⟨2, 3⟩) (meth := k2m3) (c := k2c3) (by decide +kernel) rfl rfl rfl (by decide +kernel)
set_option maxRecDepth 65536 in
theorem w_c6 : (Jvm.Cond.code ({ cls := "com/example/margay/margay/index/IntList", name := "get", desc := "(I)I" } : Jvm.MethodName) prog_50_method_3_code (2 : Nat) (Option.some Jvm.ClassFile.FieldType.int)).before args0 about1 = true := code_word (m := ⟨2, 2⟩) (meth := k2m2) (c := k2c2) (by decide +kernel) rfl rfl rfl (by decide +kernel)
set_option maxRecDepth 65536 in
theorem w_c7 : (Jvm.Cond.code ({ cls := "com/example/margay/margay/index/IntList", name := "last", desc := "()I" } : Jvm.MethodName) prog_50_method_6_code (1 : Nat) (Option.some Jvm.ClassFile.FieldType.int)).before args0 about1 = true := code_word (m := ⟨2, 4⟩) (meth := k2m4) (c := k2c4) (by decide +kernel) rfl rfl rfl (by decide +kernel)
def codes1 : List Jvm.Cond := [Jvm.Cond.code x code maxLocals ret, Jvm.Cond.code ({ cls := "com/example/margay/margay/index/IntList", name := "<init>", desc := "()V" } : Jvm.MethodName) prog_50_method_1_code (1 : Nat) (Option.none : Option Jvm.ClassFile.FieldType), Jvm.Cond.code ({ cls := "java/lang/Object", name := "<init>", desc := "()V" } : Jvm.MethodName) object_method_1_code (1 : Nat) (Option.none : Option Jvm.ClassFile.FieldType), Jvm.Cond.code ({ cls := "com/example/margay/margay/index/IntList", name := "add", desc := "(I)V" } : Jvm.MethodName) prog_50_method_2_code (2 : Nat) (Option.none : Option Jvm.ClassFile.FieldType), Jvm.Cond.code ({ cls := "com/example/margay/margay/index/IntList", name := "removeLast", desc := "()I" } : Jvm.MethodName) prog_50_method_7_code (1 : Nat) (Option.some Jvm.ClassFile.FieldType.int), Jvm.Cond.code ({ cls := "com/example/margay/margay/index/IntList", name := "size", desc := "()I" } : Jvm.MethodName) prog_50_method_5_code (1 : Nat) (Option.some Jvm.ClassFile.FieldType.int), Jvm.Cond.code ({ cls := "com/example/margay/margay/index/IntList", name := "get", desc := "(I)I" } : Jvm.MethodName) prog_50_method_3_code (2 : Nat) (Option.some Jvm.ClassFile.FieldType.int), Jvm.Cond.code ({ cls := "com/example/margay/margay/index/IntList", name := "last", desc := "()I" } : Jvm.MethodName) prog_50_method_6_code (1 : Nat) (Option.some Jvm.ClassFile.FieldType.int)]
set_option maxRecDepth 65536 in
theorem codes_eq : words1.filter isCode = codes1 := rfl
theorem w_codes : ∀ c ∈ words1.filter isCode, c.before args0 about1 = true := by
  rw [codes_eq]
  intro c hc
  simp only [codes1, List.mem_cons, List.not_mem_nil, or_false] at hc
  rcases hc with rfl | rfl | rfl | rfl | rfl | rfl | rfl | rfl
  · exact w_c0
  · exact w_c1
  · exact w_c2
  · exact w_c3
  · exact w_c4
  · exact w_c5
  · exact w_c6
  · exact w_c7
set_option maxRecDepth 65536 in
theorem w_t1 : (words1.take 24).all (fun c => isCode c || c.before args0 about1) = true := by decide +kernel
set_option maxRecDepth 65536 in
theorem w_t2 : (words1.drop 24).all (fun c => isCode c || c.before args0 about1) = true := by decide +kernel
theorem w_tables : (allAtoms (Jvm.Cond.code x code maxLocals ret :: tables_1)).before args0 about1 = true := by
  rw [allAtoms_all]
  show words1.all (fun c => c.before args0 about1) = true
  refine all_split ?_ w_codes
  rw [← List.take_append_drop 24 words1, List.all_append, w_t1, w_t2]
  rfl
set_option maxRecDepth 65536 in
theorem w_case : (Jvm.Cond.and given_1 narrow_1).before args0 about1 = true := by decide +kernel
theorem w_applies : (headSpec (Jvm.Cond.code x code maxLocals ret :: tables_1) room_1).applies x e0.platform about1 = true :=
  (Spec.applies_iff w_frames).mpr ⟨w_running, w_runnable, w_alone, w_named, w_hears, w_ripe, w_room, w_tables⟩
theorem atStart : AtStart classFile x code maxLocals ret World_1 tables_1 room_1 Calls_1 rest_1 Pre_1 launch0 p0 e0 about1 theMethod args0 below0 :=
  ⟨lists_1, trivial, launch0.admits_env _ _ _, launch0.least_env, fairChoices_fair.cas, fairChoices_fair.clock, w_frames, w_args, w_heap, w_applies, trivial, trivial, w_case⟩
end start1
theorem witness_1 : WitnessClaimed_1 := ⟨start1.p0, start1.e0, start1.about1, start1.theMethod, start1.args0, start1.below0, start1.atStart⟩
end Jvm.Pilot.@@N@@
