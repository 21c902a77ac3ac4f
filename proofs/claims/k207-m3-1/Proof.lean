import JvmDerived
import JvmDerived.Pilot.@@N@@Statement
import JvmDerived.Pilot.@@N@@Code
set_option linter.unusedVariables false
set_option linter.unusedSimpArgs false
namespace Jvm.Pilot.@@N@@
open Jvm Jvm.ClassFile Sem Op Lib Jvm.Free Jvm.Stand Jvm.LawKit Jvm.RoadKit Bundle Jvm.Pilot.@@N@@.Jvm.D
def own_Go (p : Program) (e : Env) (below : List Frame) (P : Outcome → State → Prop) (st : State) : Prop :=
  ∃ s₂ o, Steps p.tables e below st s₂ ∧ s₂.status = .running ∧ Ended s₂ below o ∧ P o s₂
def own_Fin (s : State) (C S : Nat) (Q : Option Value → Heap → List Loc → Prop) (o : Outcome) (U : State) : Prop := ∃ v L, o = .returned v ∧ Q v U.heap L ∧ FrameEnd s o U L C S
def own_upd {α : Type} (f : Nat → α) (j : Nat) (v : α) : Nat → α := fun i => if i = j then v else f i
def own_Arf (Z : State) (h : Heap) (a : Addr) (k : ClassId) (ty : FieldType) (n : Int32) (f : Nat → Value) : Prop := ∃ c : Cell, Arr Z h a c ty ∧ c.cls = k ∧ c.slots.size = n.toNatClampNeg ∧ ¬ n < 0 ∧ (∀ i, i < c.slots.size → c.slots[i]? = some (f i)) ∧ ∀ i, i < c.slots.size → fits ty (f i) = true
section OwnKit
variable {p : Program} {l : Launch} {e : Env} {R : Room} {s : State} {m : MethodId} {args : Array Value} {below : List Frame} {meth : Method} {c : Code} {T : State} {locs : List Loc} {cells slots C S : Nat} {P : Outcome → State → Prop} {Q : Option Value → Heap → List Loc → Prop} {Z : State} {h h' : Heap} {a b : Addr} {k : ClassId} {ty : FieldType} {n : Int32} {ws : List Addr}
theorem own_by {st st' : State} (f : ∀ t, Steps p.tables e below st' t → Steps p.tables e below st t) (g : own_Go p e below P st') : own_Go p e below P st := by
  obtain ⟨s₂, o, h1, h2⟩ := g
  exact ⟨s₂, o, f _ h1, h2⟩
theorem own_mono (X : Stand p l e R s m args below meth c T locs cells slots) {c' s' : Nat} (hc : cells ≤ c') (hs : slots ≤ s') : Stand p l e R s m args below meth c T locs c' s' := { X with same := X.same.mono hc hs }
theorem own_end (X : Stand p l e R s m args below meth c T locs cells slots) {v : Option Value} (hv : meth.sig.returnType = none → v = none) (hlk : meth.locks = false) (eT : T.heap = h) (hQ : Q v h locs) (hc : cells ≤ C) (hs : slots ≤ S)
    {g : JFrame} (st : ∀ fs, (∀ (f : JFrame) (acts : List Action), f.method = m → f.locked = none → f.entered = [] → (doReturn e (T.setTop f) acts v).1 = T.setFrames fs) → Steps p.tables e below (T.setTop g) (T.setFrames fs)) : own_Go p e below (own_Fin s C S Q) (T.setTop g) := by
  obtain ⟨fs, hr, hrun, hended, hW, hsame⟩ := X.leave (v := v) hv hlk
  refine ⟨_, _, st fs hr, hrun, hended, v, locs, rfl, ?_, ⟨_, rfl⟩, hW, hsame.mono hc hs⟩
  show Q v T.heap locs
  rw [eT]; exact hQ
theorem own_retN (X : Stand p l e R s m args below meth c T locs cells slots) (hx : p.tables.exec = Jvm.exec) {pc : Nat} {Ls : Array Slot} {z : Int32} {t : FieldType} {rest : List Value} (hret : meth.sig.returnType = some t) (ht : t = .boolean ∨ t = .byte ∨ t = .char ∨ t = .short) (hd : decode c.code pc = .ok (.ireturn, 1)) (hlk : meth.locks = false) (eT : T.heap = h) (hQ : Q (some (.int (nar t z))) h locs) (hc : cells ≤ C) (hs : slots ≤ S) : own_Go p e below (own_Fin s C S Q) (T.setTop (mkF m pc Ls (.int z :: rest))) :=
  own_end X (fun h => by rw [hret] at h; cases h) hlk eT hQ hc hs fun fs hr => retN X hx hret ht hd hr
theorem own_retI (X : Stand p l e R s m args below meth c T locs cells slots) (hx : p.tables.exec = Jvm.exec) {pc : Nat} {Ls : Array Slot} {z : Int32} {rest : List Value} (hret : meth.sig.returnType = some .int) (hd : decode c.code pc = .ok (.ireturn, 1)) (hlk : meth.locks = false) (eT : T.heap = h) (hQ : Q (some (.int z)) h locs) (hc : cells ≤ C) (hs : slots ≤ S) : own_Go p e below (own_Fin s C S Q) (T.setTop (mkF m pc Ls (.int z :: rest))) :=
  own_end X (fun h => by rw [hret] at h; cases h) hlk eT hQ hc hs fun fs hr => retOut X hx hret rfl (Or.inl ⟨rfl, Or.inl rfl, _, rfl⟩) hd hr
theorem own_retJ (X : Stand p l e R s m args below meth c T locs cells slots) (hx : p.tables.exec = Jvm.exec) {pc : Nat} {Ls : Array Slot} {z : Int64} {rest : List Value} (hret : meth.sig.returnType = some .long) (hd : decode c.code pc = .ok (.lreturn, 1)) (hlk : meth.locks = false) (eT : T.heap = h) (hQ : Q (some (.long z)) h locs) (hc : cells ≤ C) (hs : slots ≤ S) : own_Go p e below (own_Fin s C S Q) (T.setTop (mkF m pc Ls (.long z :: rest))) :=
  own_end X (fun h => by rw [hret] at h; cases h) hlk eT hQ hc hs fun fs hr => retOut X hx hret rfl (Or.inr (Or.inl ⟨rfl, rfl, _, rfl⟩)) hd hr
theorem own_retD (X : Stand p l e R s m args below meth c T locs cells slots) (hx : p.tables.exec = Jvm.exec) {pc : Nat} {Ls : Array Slot} {z : UInt64} {rest : List Value} (hret : meth.sig.returnType = some .double) (hd : decode c.code pc = .ok (.dreturn, 1)) (hlk : meth.locks = false) (eT : T.heap = h) (hQ : Q (some (.double z)) h locs) (hc : cells ≤ C) (hs : slots ≤ S) : own_Go p e below (own_Fin s C S Q) (T.setTop (mkF m pc Ls (.double z :: rest))) :=
  own_end X (fun h => by rw [hret] at h; cases h) hlk eT hQ hc hs fun fs hr => retOut X hx hret rfl (Or.inr (Or.inr (Or.inl ⟨rfl, rfl, _, rfl⟩))) hd hr
theorem own_retR (X : Stand p l e R s m args below meth c T locs cells slots) (hx : p.tables.exec = Jvm.exec) {pc : Nat} {Ls : Array Slot} {w : Value} {t : FieldType} {rest : List Value} (hret : meth.sig.returnType = some t) (ht : t.isReference = true) (hw : w.isRef = true) (hd : decode c.code pc = .ok (.areturn, 1)) (hlk : meth.locks = false) (eT : T.heap = h) (hQ : Q (some w) h locs) (hc : cells ≤ C) (hs : slots ≤ S) : own_Go p e below (own_Fin s C S Q) (T.setTop (mkF m pc Ls (w :: rest))) :=
  own_end X (fun h => by rw [hret] at h; cases h) hlk eT hQ hc hs fun fs hr => retOut X hx hret (by cases t <;> first | rfl | (cases w <;> first | rfl | cases hw) | (cases ht)) (Or.inr (Or.inr (Or.inr (Or.inr ⟨rfl, ht, hw⟩)))) hd hr
theorem own_ret0 (X : Stand p l e R s m args below meth c T locs cells slots) (hx : p.tables.exec = Jvm.exec) {pc : Nat} {Ls : Array Slot} (hret : meth.sig.returnType = none) (hd : decode c.code pc = .ok (.return_, 1)) (hlk : meth.locks = false) (eT : T.heap = h) (hQ : Q none h locs) (hc : cells ≤ C) (hs : slots ≤ S) : own_Go p e below (own_Fin s C S Q) (T.setTop (mkF m pc Ls [])) :=
  own_end X (fun _ => rfl) hlk eT hQ hc hs fun fs hr => X.returnOut hx hret hd hr
theorem own_one {z : Int32} (q : z = 1) : (some (.int (nar .boolean z)) : Option Value) = some (.int 1) := by subst q; rfl
theorem own_lrem {g : JFrame} {target : State} (hh : At T m c below) (hx : p.tables.exec = Jvm.exec) (hg : g.method = m) {x y : Int64} {rest : List Value} (hd : decode c.code g.pc = .ok (.lrem, 1)) (hs : g.stack = .long y :: .long x :: rest) (hy : y ≠ 0)
    (hr : Steps p.tables e below (T.setTop { g with pc := g.pc + 1, stack := .long (x % y) :: rest }) target) : Steps p.tables e below (T.setTop g) target :=
  XS.lrem hh hx hg hd hs hy (by rw [lrem_mod]; exact hr)
theorem own_Arf.lt {f : Nat → Value} (F : own_Arf Z h a k ty n f) : a < h.size := by obtain ⟨c, A, -⟩ := F; exact A.lt
theorem own_Arf.ext {f : Nat → Value} (F : own_Arf Z h a k ty n f) (E : Ext h h') : own_Arf Z h' a k ty n f := by obtain ⟨c, A, r⟩ := F; exact ⟨c, A.ext E, r⟩
theorem own_Arf.other {f : Nat → Value} {sl : Nat} {v : Value} (F : own_Arf Z h b k ty n f) (W : Wr h h' a sl v) (q : b ≠ a) : own_Arf Z h' b k ty n f := by obtain ⟨c, A, r⟩ := F; exact ⟨c, A.other W q, r⟩
theorem own_Arf.keep {f : Nat → Value} (F : own_Arf Z h a k ty n f) (K : Keep h h' ws) (q : a ∉ ws) : own_Arf Z h' a k ty n f := by obtain ⟨c, A, r⟩ := F; exact ⟨c, ⟨K.2.1 a c A.1 q, A.2⟩, r⟩
theorem own_arfNew (A : Arr Z h a (newA k ty n) ty) (q : ¬ n < 0) : own_Arf Z h a k ty n (fun _ => defaultValue ty) := ⟨_, A, rfl, sz_new _ _ _, q, fun i hi => by
  rw [sz_new] at hi; simp [newA, hi], fun i _ => by cases ty <;> rfl⟩
theorem own_arfSet {cl : Cell} {f : Nat → Value} {j : Nat} {v : Value} (A : Arr Z h a cl ty) (q1 : cl.cls = k) (S : cl.slots.size = n.toNatClampNeg) (q3 : ¬ n < 0) (H : ∀ i, i < cl.slots.size → cl.slots[i]? = some (f i)) (G : ∀ i, i < cl.slots.size → fits ty (f i) = true) (hv : fits ty v = true) (W : Wr h h' a j v) : own_Arf Z h' a k ty n (own_upd f j v) := by
  refine ⟨_, A.same W, q1, by rw [sz_set]; exact S, q3, fun i hi => ?_, fun i hi => ?_⟩
  · rw [sz_set] at hi
    by_cases u : j = i
    · subst u; simp [Cell.setSlot, hi, own_upd]
    · have := H i hi; simp only [Cell.setSlot] at this ⊢
      rw [Array.getElem?_setIfInBounds_ne u, this]; simp [own_upd, Ne.symm u]
  · rw [sz_set] at hi
    by_cases u : j = i
    · subst u; simpa [own_upd] using hv
    · have := G i hi; simpa [own_upd, Ne.symm u] using this
theorem own_arfSetI {cl : Cell} {f : Nat → Int32} {j : Nat} {v : Int32} (A : Arr Z h a cl ty) (q1 : cl.cls = k) (S : cl.slots.size = n.toNatClampNeg) (q3 : ¬ n < 0) (H : ∀ i, i < cl.slots.size → cl.slots[i]? = some (.int (f i))) (G : ∀ i, i < cl.slots.size → fits ty (.int (f i)) = true) (hv : fits ty (.int v) = true) (W : Wr h h' a j (.int v)) : own_Arf Z h' a k ty n (fun i => .int (own_upd f j v i)) := by
  have q := own_arfSet (f := fun i => .int (f i)) A q1 S q3 H G hv W
  have e : (own_upd (fun i => Value.int (f i)) j (.int v)) = (fun i => .int (own_upd f j v i)) := by funext i; simp only [own_upd]; split <;> rfl
  rw [← e]; exact q
theorem own_arfSetJ {cl : Cell} {f : Nat → Int64} {j : Nat} {v : Int64} (A : Arr Z h a cl ty) (q1 : cl.cls = k) (S : cl.slots.size = n.toNatClampNeg) (q3 : ¬ n < 0) (H : ∀ i, i < cl.slots.size → cl.slots[i]? = some (.long (f i))) (G : ∀ i, i < cl.slots.size → fits ty (.long (f i)) = true) (hv : fits ty (.long v) = true) (W : Wr h h' a j (.long v)) : own_Arf Z h' a k ty n (fun i => .long (own_upd f j v i)) := by
  have q := own_arfSet (f := fun i => .long (f i)) A q1 S q3 H G hv W
  have e : (own_upd (fun i => Value.long (f i)) j (.long v)) = (fun i => .long (own_upd f j v i)) := by funext i; simp only [own_upd]; split <;> rfl
  rw [← e]; exact q
theorem own_arfSetD {cl : Cell} {f : Nat → UInt64} {j : Nat} {v : UInt64} (A : Arr Z h a cl ty) (q1 : cl.cls = k) (S : cl.slots.size = n.toNatClampNeg) (q3 : ¬ n < 0) (H : ∀ i, i < cl.slots.size → cl.slots[i]? = some (.double (f i))) (G : ∀ i, i < cl.slots.size → fits ty (.double (f i)) = true) (hv : fits ty (.double v) = true) (W : Wr h h' a j (.double v)) : own_Arf Z h' a k ty n (fun i => .double (own_upd f j v i)) := by
  have q := own_arfSet (f := fun i => .double (f i)) A q1 S q3 H G hv W
  have e : (own_upd (fun i => Value.double (f i)) j (.double v)) = (fun i => .double (own_upd f j v i)) := by funext i; simp only [own_upd]; split <;> rfl
  rw [← e]; exact q
theorem own_neArr {A0 : Array Value} {C : String} {kk : Nat} {f : Nat → Value} (F : Exa Z h a C) (wi : (Cond.instantiable C kk).before A0 Z = true) (G : own_Arf Z h b k ty n f) : a ≠ b := by
  obtain ⟨c, A, -⟩ := G
  exact ne_arr F wi A
end OwnKit

theorem own_landNN (x : Int64) : ¬ ((x &&& (9223372036854775807 : Int64)) < (0 : Int64)) := by
  have h := (c_andSL x 9223372036854775807).2.2 (by decide)
  rw [Int64.lt_iff_toInt_lt]
  have e : (0 : Int64).toInt = 0 := rfl
  omega
theorem own_rem (x : Int32) (d : Int) (y : Int32) (hy : y.toInt = d) (h0 : 0 < d) : 0 ≤ ((x &&& 2147483647) % y).toInt ∧ ((x &&& 2147483647) % y).toInt < d := by
  have h1 := c_and x 2147483647 (by decide)
  have h2 := (c_irem (x &&& 2147483647) y d hy).1 h1.1
  rw [h2]; exact ⟨Int.emod_nonneg _ (by omega), Int.emod_lt_of_pos _ h0⟩
theorem d1_0 : decode jdk_29_method_70_code 0 = .ok (.lload_n 0, 1) := by decide +kernel
theorem d1_1 : decode jdk_29_method_70_code 1 = .ok (.lload_n 2, 1) := by decide +kernel
theorem d1_2 : decode jdk_29_method_70_code 2 = .ok (.lcmp, 1) := by decide +kernel
theorem d1_3 : decode jdk_29_method_70_code 3 = .ok (.ifCond .gt 7, 3) := by decide +kernel
theorem d1_6 : decode jdk_29_method_70_code 6 = .ok (.lload_n 0, 1) := by decide +kernel
theorem d1_7 : decode jdk_29_method_70_code 7 = .ok (.goto 4, 3) := by decide +kernel
theorem d1_10 : decode jdk_29_method_70_code 10 = .ok (.lload_n 2, 1) := by decide +kernel
theorem d1_11 : decode jdk_29_method_70_code 11 = .ok (.lreturn, 1) := by decide +kernel
theorem ef_1 (m : MethodId) (q0 : Int64) (q1 : Int64) : entryFrame m #[(.long q0), (.long q1)] 4 = mkF m 0 #[.val (.long q0), .second, .val (.long q1), .second] [] := by first | (simp [entryFrame, mkF, argsToLocals, Value.category]; done) | rfl
def Q1 (Z : State) (q0 : Int64) (q1 : Int64) (h0 : Heap) (n0 : Nat) (v : Option Value) (h : Heap) (L : List Loc) : Prop := ∃ (zz : Int64), v = some (.long zz) ∧ Fr n0 L ∧ h = h0 ∧ (((q1 < q0) ∧ zz = q1) ∨ ((¬ (q1 < q0)) ∧ zz = q0))
set_option maxRecDepth 65536 in
set_option maxHeartbeats 40000000 in
theorem rm1 (l : Launch) (Z : State) (A0 : Array Value) (hw : ∀ d ∈ tables_1, d.before A0 Z = true) (ws : List Jvm.Cond) (q0 : Int64) (q1 : Int64) (h0 : Heap) (n0 : Nat) (Z0 : n0 ≤ h0.size) :
    MetFree l (⟨"java/lang/Math", "min", "(JJ)J"⟩ : MethodName) (head1 (Jvm.Cond.code (⟨"java/lang/Math", "min", "(JJ)J"⟩ : MethodName) jdk_29_method_70_code 4 (some .long) :: ws) ({ frames := 0, cells := 0, slots := 0, locals := 0 } : Room)) (fun a U => a = #[(.long q0), (.long q1)] ∧ Z.Warmed39 U.vm ∧ U.heap = h0) (fun _ _ _ _ _ => True) (fun _ U o U' => ∃ v L, o = .returned v ∧ Q1 Z q0 q1 h0 n0 v U'.heap L ∧ FrameEnd U o U' L 0 0) := by
  refine MetFree.of_bodySF (Jvm.Free.JP.mathPlain rfl (by decide +kernel)) hisR ?_
  intro p e s m args below meth c s₁ Bd hml0 hP hK
  obtain ⟨rfl, hZ, hh⟩ := hP
  have hx := Bd.exec
  have hby := Bd.bytes
  have hml : c.maxLocals = 4 := hml0
  have hlk : meth.locks = false := Bd.notSynchronized
  have hown : s.vm.findClass "java/lang/Math" = some m.cls := findClass_of_methodNamed Bd.named
  have hnm := (name_of_methodNamed Bd.named Bd.method).1
  have X0 : Stand p l e ({ frames := 0, cells := 0, slots := 0, locals := 0 } : Room) s m #[(.long q0), (.long q1)] below meth c s₁ [] 0 0 := Stand.of_body Bd
  have e0 : s₁.heap = h0 := by rw [← hh, Bd.state]; rfl
  have N0 := Fr.nil n0
  show own_Go p e below (own_Fin s 0 0 (Q1 Z q0 q1 h0 n0)) _
  refine own_by (fun t k => castTop (ef_1 m q0 q1) k) ?_
  show own_Go p e below _ (s₁.setTop (mkF m 0 #[.val (.long q0), .second, .val (.long q1), .second] []))
  refine own_by (fun _ k => XS.lloadN X0.here hx rfl (hb hby d1_0) rfl k) ?_
  show own_Go p e below _ (s₁.setTop (mkF m 1 #[.val (.long q0), .second, .val (.long q1), .second] [(.long q0)]))
  refine own_by (fun _ k => XS.lloadN X0.here hx rfl (hb hby d1_1) rfl k) ?_
  show own_Go p e below _ (s₁.setTop (mkF m 2 #[.val (.long q0), .second, .val (.long q1), .second] [(.long q1), (.long q0)]))
  refine own_by (fun _ k => XS.lcmp X0.here hx rfl (hb hby d1_2) rfl k) ?_
  show own_Go p e below _ (s₁.setTop (mkF m 3 #[.val (.long q0), .second, .val (.long q1), .second] [(.int (lcmpW q0 q1))]))
  by_cases c1 : q1 < q0
  · skip
    refine own_by (fun _ k => XS.ifYes X0.here hx rfl (pc0 := 3) (pc' := 10) rfl (hb hby d1_3) rfl ((if0 _ _).trans (tlt ((lw_gt _ _).mpr c1)).2.2.1) (by decide) (by decide) k) ?_
    show own_Go p e below _ (s₁.setTop (mkF m 10 #[.val (.long q0), .second, .val (.long q1), .second] []))
    refine own_by (fun _ k => XS.lloadN X0.here hx rfl (hb hby d1_10) rfl k) ?_
    show own_Go p e below _ (s₁.setTop (mkF m 11 #[.val (.long q0), .second, .val (.long q1), .second] [(.long q1)]))
    exact own_retJ X0 hx Bd.returns (hb hby d1_11) hlk e0 ⟨_, rfl, N0, rfl, (Or.inl ⟨c1, rfl⟩)⟩ (by decide) (by decide)
  · skip
    refine own_by (fun _ k => XS.ifNo X0.here hx rfl (hb hby d1_3) rfl ((if0 _ _).trans (flt (fun q => c1 ((lw_gt _ _).mp q))).2.2.1) k) ?_
    show own_Go p e below _ (s₁.setTop (mkF m 6 #[.val (.long q0), .second, .val (.long q1), .second] []))
    refine own_by (fun _ k => XS.lloadN X0.here hx rfl (hb hby d1_6) rfl k) ?_
    show own_Go p e below _ (s₁.setTop (mkF m 7 #[.val (.long q0), .second, .val (.long q1), .second] [(.long q0)]))
    refine own_by (fun _ k => XS.goto X0.here hx rfl (pc0 := 7) (pc' := 11) rfl (hb hby d1_7) (by decide) (by decide) k) ?_
    show own_Go p e below _ (s₁.setTop (mkF m 11 #[.val (.long q0), .second, .val (.long q1), .second] [(.long q0)]))
    exact own_retJ X0 hx Bd.returns (hb hby d1_11) hlk e0 ⟨_, rfl, N0, rfl, (Or.inr (⟨c1, rfl⟩))⟩ (by decide) (by decide)
theorem d3_0 : decode jdk_30_method_1_code 0 = .ok (.aload_n 0, 1) := by decide +kernel
theorem d3_1 : decode jdk_30_method_1_code 1 = .ok (.invokespecial 1, 3) := by decide +kernel
theorem d3_4 : decode jdk_30_method_1_code 4 = .ok (.return_, 1) := by decide +kernel
theorem pn_3 : plainName "java/lang/Record" = true := by first | (simp [plainName, overriddenIn]; done) | decide +kernel
theorem ef_3 (m : MethodId) (a0 : Addr) : entryFrame m #[(.ref a0)] 1 = mkF m 0 #[.val (.ref a0)] [] := by first | (simp [entryFrame, mkF, argsToLocals, Value.category]; done) | rfl
def Q3 (Z : State) (a0 : Addr) (h0 : Heap) (n0 : Nat) (v : Option Value) (h : Heap) (L : List Loc) : Prop := v = none ∧ Fr n0 L ∧ h = h0
set_option maxRecDepth 65536 in
set_option maxHeartbeats 40000000 in
theorem rm3 (l : Launch) (Z : State) (A0 : Array Value) (hw : ∀ d ∈ tables_1, d.before A0 Z = true) (ws : List Jvm.Cond) (a0 : Addr) (h0 : Heap) (n0 : Nat) (Z0 : n0 ≤ h0.size) :
    MetFree l (⟨"java/lang/Record", "<init>", "()V"⟩ : MethodName) (head1 (Jvm.Cond.code (⟨"java/lang/Record", "<init>", "()V"⟩ : MethodName) jdk_30_method_1_code 1 none :: ws) ({ frames := 1, cells := 0, slots := 0, locals := 12 } : Room)) (fun a U => a = #[(.ref a0)] ∧ Z.Warmed39 U.vm ∧ U.heap = h0) (fun _ _ _ _ _ => True) (fun _ U o U' => ∃ v L, o = .returned v ∧ Q3 Z a0 h0 n0 v U'.heap L ∧ FrameEnd U o U' L 0 0) := by
  refine MetFree.of_bodySF (plainFor_of_name pn_3) hisR ?_
  intro p e s m args below meth c s₁ Bd hml0 hP hK
  obtain ⟨rfl, hZ, hh⟩ := hP
  have hx := Bd.exec
  have hby := Bd.bytes
  have hml : c.maxLocals = 1 := hml0
  have hlk : meth.locks = false := Bd.notSynchronized
  have hown : s.vm.findClass "java/lang/Record" = some m.cls := findClass_of_methodNamed Bd.named
  have hnm := (name_of_methodNamed Bd.named Bd.method).1
  have X0 : Stand p l e ({ frames := 1, cells := 0, slots := 0, locals := 12 } : Room) s m #[(.ref a0)] below meth c s₁ [] 0 0 := Stand.of_body Bd
  have e0 : s₁.heap = h0 := by rw [← hh, Bd.state]; rfl
  have N0 := Fr.nil n0
  show own_Go p e below (own_Fin s 0 0 (Q3 Z a0 h0 n0)) _
  refine own_by (fun t k => castTop (ef_3 m a0) k) ?_
  show own_Go p e below _ (s₁.setTop (mkF m 0 #[.val (.ref a0)] []))
  refine own_by (fun _ k => XS.aloadN X0.here hx rfl (hb hby d3_0) rfl rfl k) ?_
  show own_Go p e below _ (s₁.setTop (mkF m 1 #[.val (.ref a0)] [(.ref a0)]))
  obtain ⟨T1, X1, e1, st1⟩ := initO X0 hx hZ hown (hw _ (List.mem_of_getElem? (i := 17) rfl)) (hw _ (List.mem_of_getElem? (i := 18) rfl)) (hw _ (List.mem_of_getElem? (i := 19) rfl)) e0 (g := (mkF m 1 #[.val (.ref a0)] [(.ref a0)])) rfl (by rw [hml]; rfl) rfl (hb hby d3_1) (by decide) (W := 0) (by show 2 * 0 + _ ≤ _; exact Nat.le_of_eq rfl) (by decide)
  refine own_by st1 ?_
  show own_Go p e below _ (T1.setTop (mkF m 4 #[.val (.ref a0)] []))
  exact own_ret0 X1 hx Bd.returns (hb hby d3_4) hlk e1 ⟨rfl, N0, rfl⟩ (by decide) (by decide)
theorem pd_12 : parseMethodDescriptor "()V" = some ⟨[], none⟩ := by decide +kernel
theorem d2_0 : decode prog_2_method_1_code 0 = .ok (.aload_n 0, 1) := by decide +kernel
theorem d2_1 : decode prog_2_method_1_code 1 = .ok (.invokespecial 1, 3) := by decide +kernel
theorem d2_4 : decode prog_2_method_1_code 4 = .ok (.lload_n 1, 1) := by decide +kernel
theorem d2_5 : decode prog_2_method_1_code 5 = .ok (.lconst 0, 1) := by decide +kernel
theorem d2_6 : decode prog_2_method_1_code 6 = .ok (.lcmp, 1) := by decide +kernel
theorem d2_7 : decode prog_2_method_1_code 7 = .ok (.ifCond .lt 9, 3) := by decide +kernel
theorem d2_10 : decode prog_2_method_1_code 10 = .ok (.lload_n 3, 1) := by decide +kernel
theorem d2_11 : decode prog_2_method_1_code 11 = .ok (.lconst 0, 1) := by decide +kernel
theorem d2_12 : decode prog_2_method_1_code 12 = .ok (.lcmp, 1) := by decide +kernel
theorem d2_13 : decode prog_2_method_1_code 13 = .ok (.ifCond .ge 18, 3) := by decide +kernel
theorem d2_31 : decode prog_2_method_1_code 31 = .ok (.aload_n 0, 1) := by decide +kernel
theorem d2_32 : decode prog_2_method_1_code 32 = .ok (.lload_n 1, 1) := by decide +kernel
theorem d2_33 : decode prog_2_method_1_code 33 = .ok (.putfield 16, 3) := by decide +kernel
theorem d2_36 : decode prog_2_method_1_code 36 = .ok (.aload_n 0, 1) := by decide +kernel
theorem d2_37 : decode prog_2_method_1_code 37 = .ok (.lload_n 3, 1) := by decide +kernel
theorem d2_38 : decode prog_2_method_1_code 38 = .ok (.putfield 22, 3) := by decide +kernel
theorem d2_41 : decode prog_2_method_1_code 41 = .ok (.return_, 1) := by decide +kernel
theorem pn_2 : plainName "com/example/credence/credence/core/Evidence" = true := by first | (simp [plainName, overriddenIn]; done) | decide +kernel
theorem ef_2 (m : MethodId) (a0 : Addr) (q1 : Int64) (q2 : Int64) : entryFrame m #[(.ref a0), (.long q1), (.long q2)] 5 = mkF m 0 #[.val (.ref a0), .val (.long q1), .second, .val (.long q2), .second] [] := by first | (simp [entryFrame, mkF, argsToLocals, Value.category]; done) | rfl
def Q2 (Z : State) (a0 : Addr) (q1 : Int64) (q2 : Int64) (f_a0_successes : Int64) (f_a0_failures : Int64) (h0 : Heap) (n0 : Nat) (v : Option Value) (h : Heap) (L : List Loc) : Prop := v = none ∧ Fr n0 L ∧ Keep h0 h [a0] ∧ Exa Z h a0 "com/example/credence/credence/core/Evidence" ∧ Fld Z h a0 "com/example/credence/credence/core/Evidence" "successes" "J" (.long q1) ∧ Fld Z h a0 "com/example/credence/credence/core/Evidence" "failures" "J" (.long q2)
set_option maxRecDepth 65536 in
set_option maxHeartbeats 40000000 in
theorem rm2 (l : Launch) (Z : State) (A0 : Array Value) (hw : ∀ d ∈ tables_1, d.before A0 Z = true) (ws : List Jvm.Cond) (a0 : Addr) (q1 : Int64) (q2 : Int64) (f_a0_successes : Int64) (f_a0_failures : Int64) (h0 : Heap) (n0 : Nat) (Z0 : n0 ≤ h0.size) (hc7 : ¬ (q1 < (0 : Int64))) (hc13 : ¬ (q2 < (0 : Int64))) (P_E_a0 : Exa Z h0 a0 "com/example/credence/credence/core/Evidence") (P_F_a0_successes : Fld Z h0 a0 "com/example/credence/credence/core/Evidence" "successes" "J" (.long f_a0_successes)) (g_a0 : n0 ≤ a0) (P_F_a0_failures : Fld Z h0 a0 "com/example/credence/credence/core/Evidence" "failures" "J" (.long f_a0_failures)) :
    MetFree l (⟨"com/example/credence/credence/core/Evidence", "<init>", "(JJ)V"⟩ : MethodName) (head1 (Jvm.Cond.code (⟨"com/example/credence/credence/core/Evidence", "<init>", "(JJ)V"⟩ : MethodName) prog_2_method_1_code 5 none :: ws) ({ frames := 2, cells := 0, slots := 0, locals := 24 } : Room)) (fun a U => a = #[(.ref a0), (.long q1), (.long q2)] ∧ Z.Warmed39 U.vm ∧ U.heap = h0) (fun _ _ _ _ _ => True) (fun _ U o U' => ∃ v L, o = .returned v ∧ Q2 Z a0 q1 q2 f_a0_successes f_a0_failures h0 n0 v U'.heap L ∧ FrameEnd U o U' L 0 0) := by
  refine MetFree.of_bodySF (plainFor_of_name pn_2) hisR ?_
  intro p e s m args below meth c s₁ Bd hml0 hP hK
  obtain ⟨rfl, hZ, hh⟩ := hP
  have hx := Bd.exec
  have hby := Bd.bytes
  have hml : c.maxLocals = 5 := hml0
  have hlk : meth.locks = false := Bd.notSynchronized
  have hown : s.vm.findClass "com/example/credence/credence/core/Evidence" = some m.cls := findClass_of_methodNamed Bd.named
  have hnm := (name_of_methodNamed Bd.named Bd.method).1
  have X0 : Stand p l e ({ frames := 2, cells := 0, slots := 0, locals := 24 } : Room) s m #[(.ref a0), (.long q1), (.long q2)] below meth c s₁ [] 0 0 := Stand.of_body Bd
  have e0 : s₁.heap = h0 := by rw [← hh, Bd.state]; rfl
  have N0 := Fr.nil n0
  show own_Go p e below (own_Fin s 0 0 (Q2 Z a0 q1 q2 f_a0_successes f_a0_failures h0 n0)) _
  refine own_by (fun t k => castTop (ef_2 m a0 q1 q2) k) ?_
  show own_Go p e below _ (s₁.setTop (mkF m 0 #[.val (.ref a0), .val (.long q1), .second, .val (.long q2), .second] []))
  refine own_by (fun _ k => XS.aloadN X0.here hx rfl (hb hby d2_0) rfl rfl k) ?_
  show own_Go p e below _ (s₁.setTop (mkF m 1 #[.val (.ref a0), .val (.long q1), .second, .val (.long q2), .second] [(.ref a0)]))
  obtain ⟨_, _, ⟨T1, L1, k1, n1⟩, -, X1, ⟨Lc1, hQ1, l1, y1, z1⟩, st1⟩ := X0.specialBack hx (y := (⟨"java/lang/Record", "<init>", "()V"⟩ : MethodName)) rfl hown (mvT hZ (hw _ (List.mem_of_getElem? (i := 12) rfl))) (mvT hZ (hw _ (List.mem_of_getElem? (i := 13) rfl))) (mvT hZ (hw _ (List.mem_of_getElem? (i := 16) rfl))) (by decide) (backOf (W := 0) (rm3 l Z A0 hw [] a0 h0 n0 Z0 ) hZ (hw _ (List.mem_of_getElem? (i := 16) rfl)) (hw _ (List.mem_of_getElem? (i := 15) rfl)) (by decide) (by decide)) (g := (mkF m 1 #[.val (.ref a0), .val (.long q1), .second, .val (.long q2), .second] [(.ref a0)])) rfl (by rw [hml]; rfl) (Steps.refl _) (a := a0) (argsL := []) (rest := []) (lenOf pd_12 rfl) rfl (by show 2 * 0 + _ ≤ _; exact Nat.le_of_eq rfl) (hb hby d2_1) (fun _ _ => ⟨rfl, e0, (by decide : 0 + 0 ≤ _), (by decide : 0 + 0 ≤ _)⟩)
  dsimp only [Pt.U, Pt.locs, Pt.cells, Pt.slots] at X1 l1 y1 z1 st1 hQ1
  subst l1 y1 z1
  obtain ⟨rfl, Nq1, eq1⟩ := hQ1
  have N1 := Fr.app N0 Nq1
  refine own_by (fun _ k => st1.trans k) ?_
  show own_Go p e below _ (T1.setTop (mkF m 4 #[.val (.ref a0), .val (.long q1), .second, .val (.long q2), .second] []))
  refine own_by (fun _ k => XS.lloadN X1.here hx rfl (hb hby d2_4) rfl k) ?_
  show own_Go p e below _ (T1.setTop (mkF m 5 #[.val (.ref a0), .val (.long q1), .second, .val (.long q2), .second] [(.long q1)]))
  refine own_by (fun _ k => XS.lconst X1.here hx rfl (hb hby d2_5) k) ?_
  show own_Go p e below _ (T1.setTop (mkF m 6 #[.val (.ref a0), .val (.long q1), .second, .val (.long q2), .second] [(.long (0 : Int64)), (.long q1)]))
  refine own_by (fun _ k => XS.lcmp X1.here hx rfl (hb hby d2_6) rfl k) ?_
  show own_Go p e below _ (T1.setTop (mkF m 7 #[.val (.ref a0), .val (.long q1), .second, .val (.long q2), .second] [(.int (lcmpW q1 (0 : Int64)))]))
  refine own_by (fun _ k => XS.ifNo X1.here hx rfl (hb hby d2_7) rfl ((if0 _ _).trans (flt (fun q => hc7 ((lw_lt _ _).mp q))).1) k) ?_
  show own_Go p e below _ (T1.setTop (mkF m 10 #[.val (.ref a0), .val (.long q1), .second, .val (.long q2), .second] []))
  refine own_by (fun _ k => XS.lloadN X1.here hx rfl (hb hby d2_10) rfl k) ?_
  show own_Go p e below _ (T1.setTop (mkF m 11 #[.val (.ref a0), .val (.long q1), .second, .val (.long q2), .second] [(.long q2)]))
  refine own_by (fun _ k => XS.lconst X1.here hx rfl (hb hby d2_11) k) ?_
  show own_Go p e below _ (T1.setTop (mkF m 12 #[.val (.ref a0), .val (.long q1), .second, .val (.long q2), .second] [(.long (0 : Int64)), (.long q2)]))
  refine own_by (fun _ k => XS.lcmp X1.here hx rfl (hb hby d2_12) rfl k) ?_
  show own_Go p e below _ (T1.setTop (mkF m 13 #[.val (.ref a0), .val (.long q1), .second, .val (.long q2), .second] [(.int (lcmpW q2 (0 : Int64)))]))
  refine own_by (fun _ k => XS.ifYes X1.here hx rfl (pc0 := 13) (pc' := 31) rfl (hb hby d2_13) rfl ((if0 _ _).trans (flt (fun q => hc13 ((lw_lt _ _).mp q))).2.1) (by decide) (by decide) k) ?_
  show own_Go p e below _ (T1.setTop (mkF m 31 #[.val (.ref a0), .val (.long q1), .second, .val (.long q2), .second] []))
  refine own_by (fun _ k => XS.aloadN X1.here hx rfl (hb hby d2_31) rfl rfl k) ?_
  show own_Go p e below _ (T1.setTop (mkF m 32 #[.val (.ref a0), .val (.long q1), .second, .val (.long q2), .second] [(.ref a0)]))
  refine own_by (fun _ k => XS.lloadN X1.here hx rfl (hb hby d2_32) rfl k) ?_
  show own_Go p e below _ (T1.setTop (mkF m 33 #[.val (.ref a0), .val (.long q1), .second, .val (.long q2), .second] [(.long q1), (.ref a0)]))
  obtain ⟨T2, h2, X2, e2, W2, st2⟩ := putF X1 hx hZ hown (host := "") (Or.inl (hw _ (List.mem_of_getElem? (i := 20) rfl))) Via.refl eq1 P_F_a0_successes P_E_a0 (Or.inr ⟨(hw _ (List.mem_of_getElem? (i := 21) rfl)), rfl, hnm⟩) (hw _ (List.mem_of_getElem? (i := 7) rfl)) (ty := .long) (by decide) rfl rfl (g := (mkF m 33 #[.val (.ref a0), .val (.long q1), .second, .val (.long q2), .second] [(.long q1), (.ref a0)])) rfl rfl (hb hby d2_33)
  have Fw2 : Fld Z h2 a0 "com/example/credence/credence/core/Evidence" "successes" "J" (.long q1) := P_F_a0_successes.same W2
  have K2 : Keep h0 h2 [a0] := (Keep.refl h0 [a0]).wr W2 (Or.inl (List.mem_of_getElem? (i := 0) rfl))
  have Z2 : n0 ≤ h2.size := Nat.le_trans Z0 (Keep.of_wr W2).1
  have N2 := Fr.snoc X2 N1 g_a0
  refine own_by st2 ?_
  show own_Go p e below _ (T2.setTop (mkF m 36 #[.val (.ref a0), .val (.long q1), .second, .val (.long q2), .second] []))
  refine own_by (fun _ k => XS.aloadN X2.here hx rfl (hb hby d2_36) rfl rfl k) ?_
  show own_Go p e below _ (T2.setTop (mkF m 37 #[.val (.ref a0), .val (.long q1), .second, .val (.long q2), .second] [(.ref a0)]))
  refine own_by (fun _ k => XS.lloadN X2.here hx rfl (hb hby d2_37) rfl k) ?_
  show own_Go p e below _ (T2.setTop (mkF m 38 #[.val (.ref a0), .val (.long q1), .second, .val (.long q2), .second] [(.long q2), (.ref a0)]))
  have F3 : Exa Z h2 a0 "com/example/credence/credence/core/Evidence" := (P_E_a0.wr W2)
  have F4 : Fld Z h2 a0 "com/example/credence/credence/core/Evidence" "failures" "J" (.long f_a0_failures) := (P_F_a0_failures.other W2 (Or.inr (slot_ne (Or.inr (hw _ (List.mem_of_getElem? (i := 23) rfl))) (Or.inr (hw _ (List.mem_of_getElem? (i := 21) rfl))) (by decide) (t := .long) (t' := .long) (by decide) (by decide))))
  obtain ⟨T5, h5, X5, e5, W5, st5⟩ := putF X2 hx hZ hown (host := "") (Or.inl (hw _ (List.mem_of_getElem? (i := 22) rfl))) Via.refl e2 F4 F3 (Or.inr ⟨(hw _ (List.mem_of_getElem? (i := 23) rfl)), rfl, hnm⟩) (hw _ (List.mem_of_getElem? (i := 7) rfl)) (ty := .long) (by decide) rfl rfl (g := (mkF m 38 #[.val (.ref a0), .val (.long q1), .second, .val (.long q2), .second] [(.long q2), (.ref a0)])) rfl rfl (hb hby d2_38)
  have Fw5 : Fld Z h5 a0 "com/example/credence/credence/core/Evidence" "failures" "J" (.long q2) := F4.same W5
  have K5 : Keep h0 h5 [a0] := K2.wr W5 (Or.inl (List.mem_of_getElem? (i := 0) rfl))
  have Z5 : n0 ≤ h5.size := Nat.le_trans Z2 (Keep.of_wr W5).1
  have N5 := Fr.snoc X5 N2 g_a0
  refine own_by st5 ?_
  show own_Go p e below _ (T5.setTop (mkF m 41 #[.val (.ref a0), .val (.long q1), .second, .val (.long q2), .second] []))
  have F6 : Exa Z h5 a0 "com/example/credence/credence/core/Evidence" := (F3.wr W5)
  have F7 : Fld Z h5 a0 "com/example/credence/credence/core/Evidence" "successes" "J" (.long q1) := (Fw2.other W5 (Or.inr (slot_ne (Or.inr (hw _ (List.mem_of_getElem? (i := 21) rfl))) (Or.inr (hw _ (List.mem_of_getElem? (i := 23) rfl))) (by decide) (t := .long) (t' := .long) (by decide) (by decide))))
  exact own_ret0 X5 hx Bd.returns (hb hby d2_41) hlk e5 ⟨rfl, N5, K5, F6, F7, Fw5⟩ (by decide) (by decide)
theorem d6_0 : decode prog_2_method_6_code 0 = .ok (.aload_n 0, 1) := by decide +kernel
theorem d6_1 : decode prog_2_method_6_code 1 = .ok (.getfield 16, 3) := by decide +kernel
theorem d6_4 : decode prog_2_method_6_code 4 = .ok (.lreturn, 1) := by decide +kernel
theorem pn_6 : plainName "com/example/credence/credence/core/Evidence" = true := by first | (simp [plainName, overriddenIn]; done) | decide +kernel
theorem ef_6 (m : MethodId) (a0 : Addr) : entryFrame m #[(.ref a0)] 1 = mkF m 0 #[.val (.ref a0)] [] := by first | (simp [entryFrame, mkF, argsToLocals, Value.category]; done) | rfl
def Q6 (Z : State) (a0 : Addr) (f_a0_successes : Int64) (h0 : Heap) (n0 : Nat) (v : Option Value) (h : Heap) (L : List Loc) : Prop := v = some (.long f_a0_successes) ∧ Fr n0 L ∧ h = h0
set_option maxRecDepth 65536 in
set_option maxHeartbeats 40000000 in
theorem rm6 (l : Launch) (Z : State) (A0 : Array Value) (hw : ∀ d ∈ tables_1, d.before A0 Z = true) (ws : List Jvm.Cond) (a0 : Addr) (f_a0_successes : Int64) (h0 : Heap) (n0 : Nat) (Z0 : n0 ≤ h0.size) (P_F_a0_successes : Fld Z h0 a0 "com/example/credence/credence/core/Evidence" "successes" "J" (.long f_a0_successes)) :
    MetFree l (⟨"com/example/credence/credence/core/Evidence", "successes", "()J"⟩ : MethodName) (head1 (Jvm.Cond.code (⟨"com/example/credence/credence/core/Evidence", "successes", "()J"⟩ : MethodName) prog_2_method_6_code 1 (some .long) :: ws) ({ frames := 0, cells := 0, slots := 0, locals := 0 } : Room)) (fun a U => a = #[(.ref a0)] ∧ Z.Warmed39 U.vm ∧ U.heap = h0) (fun _ _ _ _ _ => True) (fun _ U o U' => ∃ v L, o = .returned v ∧ Q6 Z a0 f_a0_successes h0 n0 v U'.heap L ∧ FrameEnd U o U' L 0 0) := by
  refine MetFree.of_bodySF (plainFor_of_name pn_6) hisR ?_
  intro p e s m args below meth c s₁ Bd hml0 hP hK
  obtain ⟨rfl, hZ, hh⟩ := hP
  have hx := Bd.exec
  have hby := Bd.bytes
  have hml : c.maxLocals = 1 := hml0
  have hlk : meth.locks = false := Bd.notSynchronized
  have hown : s.vm.findClass "com/example/credence/credence/core/Evidence" = some m.cls := findClass_of_methodNamed Bd.named
  have hnm := (name_of_methodNamed Bd.named Bd.method).1
  have X0 : Stand p l e ({ frames := 0, cells := 0, slots := 0, locals := 0 } : Room) s m #[(.ref a0)] below meth c s₁ [] 0 0 := Stand.of_body Bd
  have e0 : s₁.heap = h0 := by rw [← hh, Bd.state]; rfl
  have N0 := Fr.nil n0
  show own_Go p e below (own_Fin s 0 0 (Q6 Z a0 f_a0_successes h0 n0)) _
  refine own_by (fun t k => castTop (ef_6 m a0) k) ?_
  show own_Go p e below _ (s₁.setTop (mkF m 0 #[.val (.ref a0)] []))
  refine own_by (fun _ k => XS.aloadN X0.here hx rfl (hb hby d6_0) rfl rfl k) ?_
  show own_Go p e below _ (s₁.setTop (mkF m 1 #[.val (.ref a0)] [(.ref a0)]))
  obtain ⟨T1, X1, e1, st1⟩ := getF X0 hx hZ hown (host := "") (Or.inl (hw _ (List.mem_of_getElem? (i := 20) rfl))) Via.refl e0 P_F_a0_successes (g := (mkF m 1 #[.val (.ref a0)] [(.ref a0)])) rfl rfl (hb hby d6_1)
  refine own_by st1 ?_
  show own_Go p e below _ (T1.setTop (mkF m 4 #[.val (.ref a0)] [(.long f_a0_successes)]))
  exact own_retJ X1 hx Bd.returns (hb hby d6_4) hlk e1 ⟨rfl, N0, rfl⟩ (by decide) (by decide)
theorem d7_0 : decode prog_2_method_7_code 0 = .ok (.aload_n 0, 1) := by decide +kernel
theorem d7_1 : decode prog_2_method_7_code 1 = .ok (.getfield 22, 3) := by decide +kernel
theorem d7_4 : decode prog_2_method_7_code 4 = .ok (.lreturn, 1) := by decide +kernel
theorem pn_7 : plainName "com/example/credence/credence/core/Evidence" = true := by first | (simp [plainName, overriddenIn]; done) | decide +kernel
theorem ef_7 (m : MethodId) (a0 : Addr) : entryFrame m #[(.ref a0)] 1 = mkF m 0 #[.val (.ref a0)] [] := by first | (simp [entryFrame, mkF, argsToLocals, Value.category]; done) | rfl
def Q7 (Z : State) (a0 : Addr) (f_a0_failures : Int64) (h0 : Heap) (n0 : Nat) (v : Option Value) (h : Heap) (L : List Loc) : Prop := v = some (.long f_a0_failures) ∧ Fr n0 L ∧ h = h0
set_option maxRecDepth 65536 in
set_option maxHeartbeats 40000000 in
theorem rm7 (l : Launch) (Z : State) (A0 : Array Value) (hw : ∀ d ∈ tables_1, d.before A0 Z = true) (ws : List Jvm.Cond) (a0 : Addr) (f_a0_failures : Int64) (h0 : Heap) (n0 : Nat) (Z0 : n0 ≤ h0.size) (P_F_a0_failures : Fld Z h0 a0 "com/example/credence/credence/core/Evidence" "failures" "J" (.long f_a0_failures)) :
    MetFree l (⟨"com/example/credence/credence/core/Evidence", "failures", "()J"⟩ : MethodName) (head1 (Jvm.Cond.code (⟨"com/example/credence/credence/core/Evidence", "failures", "()J"⟩ : MethodName) prog_2_method_7_code 1 (some .long) :: ws) ({ frames := 0, cells := 0, slots := 0, locals := 0 } : Room)) (fun a U => a = #[(.ref a0)] ∧ Z.Warmed39 U.vm ∧ U.heap = h0) (fun _ _ _ _ _ => True) (fun _ U o U' => ∃ v L, o = .returned v ∧ Q7 Z a0 f_a0_failures h0 n0 v U'.heap L ∧ FrameEnd U o U' L 0 0) := by
  refine MetFree.of_bodySF (plainFor_of_name pn_7) hisR ?_
  intro p e s m args below meth c s₁ Bd hml0 hP hK
  obtain ⟨rfl, hZ, hh⟩ := hP
  have hx := Bd.exec
  have hby := Bd.bytes
  have hml : c.maxLocals = 1 := hml0
  have hlk : meth.locks = false := Bd.notSynchronized
  have hown : s.vm.findClass "com/example/credence/credence/core/Evidence" = some m.cls := findClass_of_methodNamed Bd.named
  have hnm := (name_of_methodNamed Bd.named Bd.method).1
  have X0 : Stand p l e ({ frames := 0, cells := 0, slots := 0, locals := 0 } : Room) s m #[(.ref a0)] below meth c s₁ [] 0 0 := Stand.of_body Bd
  have e0 : s₁.heap = h0 := by rw [← hh, Bd.state]; rfl
  have N0 := Fr.nil n0
  show own_Go p e below (own_Fin s 0 0 (Q7 Z a0 f_a0_failures h0 n0)) _
  refine own_by (fun t k => castTop (ef_7 m a0) k) ?_
  show own_Go p e below _ (s₁.setTop (mkF m 0 #[.val (.ref a0)] []))
  refine own_by (fun _ k => XS.aloadN X0.here hx rfl (hb hby d7_0) rfl rfl k) ?_
  show own_Go p e below _ (s₁.setTop (mkF m 1 #[.val (.ref a0)] [(.ref a0)]))
  obtain ⟨T1, X1, e1, st1⟩ := getF X0 hx hZ hown (host := "") (Or.inl (hw _ (List.mem_of_getElem? (i := 22) rfl))) Via.refl e0 P_F_a0_failures (g := (mkF m 1 #[.val (.ref a0)] [(.ref a0)])) rfl rfl (hb hby d7_1)
  refine own_by st1 ?_
  show own_Go p e below _ (T1.setTop (mkF m 4 #[.val (.ref a0)] [(.long f_a0_failures)]))
  exact own_retJ X1 hx Bd.returns (hb hby d7_4) hlk e1 ⟨rfl, N0, rfl⟩ (by decide) (by decide)
theorem pd_9 : parseMethodDescriptor "(JJ)V" = some ⟨[.long, .long], none⟩ := by decide +kernel
theorem d5_0 : decode prog_2_method_2_code 0 = .ok (.iload_n 1, 1) := by decide +kernel
theorem d5_1 : decode prog_2_method_2_code 1 = .ok (.ifCond .eq 23, 3) := by decide +kernel
theorem d5_4 : decode prog_2_method_2_code 4 = .ok (.new 17, 3) := by decide +kernel
theorem d5_7 : decode prog_2_method_2_code 7 = .ok (.dup, 1) := by decide +kernel
theorem d5_8 : decode prog_2_method_2_code 8 = .ok (.aload_n 0, 1) := by decide +kernel
theorem d5_9 : decode prog_2_method_2_code 9 = .ok (.getfield 16, 3) := by decide +kernel
theorem d5_12 : decode prog_2_method_2_code 12 = .ok (.lconst 1, 1) := by decide +kernel
theorem d5_13 : decode prog_2_method_2_code 13 = .ok (.ladd, 1) := by decide +kernel
theorem d5_14 : decode prog_2_method_2_code 14 = .ok (.aload_n 0, 1) := by decide +kernel
theorem d5_15 : decode prog_2_method_2_code 15 = .ok (.getfield 22, 3) := by decide +kernel
theorem d5_18 : decode prog_2_method_2_code 18 = .ok (.invokespecial 25, 3) := by decide +kernel
theorem d5_21 : decode prog_2_method_2_code 21 = .ok (.goto 20, 3) := by decide +kernel
theorem d5_24 : decode prog_2_method_2_code 24 = .ok (.new 17, 3) := by decide +kernel
theorem d5_27 : decode prog_2_method_2_code 27 = .ok (.dup, 1) := by decide +kernel
theorem d5_28 : decode prog_2_method_2_code 28 = .ok (.aload_n 0, 1) := by decide +kernel
theorem d5_29 : decode prog_2_method_2_code 29 = .ok (.getfield 16, 3) := by decide +kernel
theorem d5_32 : decode prog_2_method_2_code 32 = .ok (.aload_n 0, 1) := by decide +kernel
theorem d5_33 : decode prog_2_method_2_code 33 = .ok (.getfield 22, 3) := by decide +kernel
theorem d5_36 : decode prog_2_method_2_code 36 = .ok (.lconst 1, 1) := by decide +kernel
theorem d5_37 : decode prog_2_method_2_code 37 = .ok (.ladd, 1) := by decide +kernel
theorem d5_38 : decode prog_2_method_2_code 38 = .ok (.invokespecial 25, 3) := by decide +kernel
theorem d5_41 : decode prog_2_method_2_code 41 = .ok (.areturn, 1) := by decide +kernel
theorem pn_5 : plainName "com/example/credence/credence/core/Evidence" = true := by first | (simp [plainName, overriddenIn]; done) | decide +kernel
theorem ef_5 (m : MethodId) (a0 : Addr) (p1 : Int32) : entryFrame m #[(.ref a0), (.int p1)] 2 = mkF m 0 #[.val (.ref a0), .val (.int p1)] [] := by first | (simp [entryFrame, mkF, argsToLocals, Value.category]; done) | rfl
def Q5 (Z : State) (a0 : Addr) (p1 : Int32) (f_a0_successes : Int64) (f_a0_failures : Int64) (h0 : Heap) (n0 : Nat) (v : Option Value) (h : Heap) (L : List Loc) : Prop := ∃ (rr : Addr) (y5001 : Int64) (y5002 : Int64), v = some (.ref rr) ∧ Fr n0 L ∧ Keep h0 h [] ∧ (n0 ≤ rr) ∧ (h0.size ≤ rr) ∧ Exa Z h rr "com/example/credence/credence/core/Evidence" ∧ Fld Z h rr "com/example/credence/credence/core/Evidence" "successes" "J" (.long y5001) ∧ Fld Z h rr "com/example/credence/credence/core/Evidence" "failures" "J" (.long y5002) ∧ (((p1 = (0 : Int32)) ∧ y5001 = f_a0_successes ∧ y5002 = (f_a0_failures + (1 : Int64))) ∨ ((¬ (p1 = (0 : Int32))) ∧ y5001 = (f_a0_successes + (1 : Int64)) ∧ y5002 = f_a0_failures))
set_option maxRecDepth 65536 in
set_option maxHeartbeats 40000000 in
theorem rm5 (l : Launch) (Z : State) (A0 : Array Value) (hw : ∀ d ∈ tables_1, d.before A0 Z = true) (ws : List Jvm.Cond) (a0 : Addr) (p1 : Int32) (f_a0_successes : Int64) (f_a0_failures : Int64) (h0 : Heap) (n0 : Nat) (Z0 : n0 ≤ h0.size) (P_F_a0_successes : Fld Z h0 a0 "com/example/credence/credence/core/Evidence" "successes" "J" (.long f_a0_successes)) (P_F_a0_failures : Fld Z h0 a0 "com/example/credence/credence/core/Evidence" "failures" "J" (.long f_a0_failures)) (hp_0 : ¬ (f_a0_successes < (0 : Int64))) (hp_1 : ¬ ((f_a0_failures + (1 : Int64)) < (0 : Int64))) (hp_2 : ¬ ((f_a0_successes + (1 : Int64)) < (0 : Int64))) (hp_3 : ¬ (f_a0_failures < (0 : Int64))) :
    MetFree l (⟨"com/example/credence/credence/core/Evidence", "plus", "(Z)Lcom/example/credence/credence/core/Evidence;"⟩ : MethodName) (head1 (Jvm.Cond.code (⟨"com/example/credence/credence/core/Evidence", "plus", "(Z)Lcom/example/credence/credence/core/Evidence;"⟩ : MethodName) prog_2_method_2_code 2 (some (.object "com/example/credence/credence/core/Evidence")) :: ws) ({ frames := 3, cells := 1, slots := 2, locals := 41 } : Room)) (fun a U => a = #[(.ref a0), (.int p1)] ∧ Z.Warmed39 U.vm ∧ U.heap = h0) (fun _ _ _ _ _ => True) (fun _ U o U' => ∃ v L, o = .returned v ∧ Q5 Z a0 p1 f_a0_successes f_a0_failures h0 n0 v U'.heap L ∧ FrameEnd U o U' L 1 2) := by
  refine MetFree.of_bodySF (plainFor_of_name pn_5) hisR ?_
  intro p e s m args below meth c s₁ Bd hml0 hP hK
  obtain ⟨rfl, hZ, hh⟩ := hP
  have hx := Bd.exec
  have hby := Bd.bytes
  have hml : c.maxLocals = 2 := hml0
  have hlk : meth.locks = false := Bd.notSynchronized
  have hown : s.vm.findClass "com/example/credence/credence/core/Evidence" = some m.cls := findClass_of_methodNamed Bd.named
  have hnm := (name_of_methodNamed Bd.named Bd.method).1
  have X0 : Stand p l e ({ frames := 3, cells := 1, slots := 2, locals := 41 } : Room) s m #[(.ref a0), (.int p1)] below meth c s₁ [] 0 0 := Stand.of_body Bd
  have e0 : s₁.heap = h0 := by rw [← hh, Bd.state]; rfl
  have N0 := Fr.nil n0
  show own_Go p e below (own_Fin s 1 2 (Q5 Z a0 p1 f_a0_successes f_a0_failures h0 n0)) _
  refine own_by (fun t k => castTop (ef_5 m a0 p1) k) ?_
  show own_Go p e below _ (s₁.setTop (mkF m 0 #[.val (.ref a0), .val (.int p1)] []))
  refine own_by (fun _ k => XS.iloadN X0.here hx rfl (hb hby d5_0) rfl k) ?_
  show own_Go p e below _ (s₁.setTop (mkF m 1 #[.val (.ref a0), .val (.int p1)] [(.int p1)]))
  by_cases c1 : p1 = (0 : Int32)
  · skip
    refine own_by (fun _ k => XS.ifYes X0.here hx rfl (pc0 := 1) (pc' := 24) rfl (hb hby d5_1) rfl ((if0 _ _).trans (teq c1).1) (by decide) (by decide) k) ?_
    show own_Go p e below _ (s₁.setTop (mkF m 24 #[.val (.ref a0), .val (.int p1)] []))
    obtain ⟨T2, h2, X2, e2, E2, A2, D2, -, st2⟩ := newO X0 hx hZ hown (hw _ (List.mem_of_getElem? (i := 29) rfl)) (hw _ (List.mem_of_getElem? (i := 7) rfl)) (hw _ (List.mem_of_getElem? (i := 8) rfl)) e0 (g := (mkF m 24 #[.val (.ref a0), .val (.int p1)] [])) rfl (hb hby d5_24) (by decide) (by decide)
    obtain ⟨b2, g2⟩ : ∃ z, z = h0.size := ⟨_, rfl⟩
    have ge_b2 : n0 ≤ b2 := Nat.le_trans Z0 (Nat.le_of_eq g2.symm)
    have sz_b2 : h0.size ≤ b2 := Nat.le_trans (Keep.refl h0 []).1 (Nat.le_of_eq g2.symm)
    have K2 : Keep h0 h2 [] := (Keep.refl h0 []).ext E2
    have Z2 : n0 ≤ h2.size := Nat.le_trans Z0 E2.1
    rw [← g2] at A2 D2 st2
    have F_successes_b2 : Fld Z h2 b2 "com/example/credence/credence/core/Evidence" "successes" "J" (.long (0 : Int64)) := D2 (Or.inr (hw _ (List.mem_of_getElem? (i := 21) rfl))) (ty := .long) (by decide)
    have F_failures_b2 : Fld Z h2 b2 "com/example/credence/credence/core/Evidence" "failures" "J" (.long (0 : Int64)) := D2 (Or.inr (hw _ (List.mem_of_getElem? (i := 23) rfl))) (ty := .long) (by decide)
    refine own_by st2 ?_
    show own_Go p e below _ (T2.setTop (mkF m 27 #[.val (.ref a0), .val (.int p1)] [(.ref b2)]))
    refine own_by (fun _ k => XS.dup X2.here hx rfl (hb hby d5_27) rfl rfl k) ?_
    show own_Go p e below _ (T2.setTop (mkF m 28 #[.val (.ref a0), .val (.int p1)] [(.ref b2), (.ref b2)]))
    refine own_by (fun _ k => XS.aloadN X2.here hx rfl (hb hby d5_28) rfl rfl k) ?_
    show own_Go p e below _ (T2.setTop (mkF m 29 #[.val (.ref a0), .val (.int p1)] [(.ref a0), (.ref b2), (.ref b2)]))
    have F3 : Fld Z h2 a0 "com/example/credence/credence/core/Evidence" "successes" "J" (.long f_a0_successes) := (P_F_a0_successes.ext E2)
    obtain ⟨T4, X4, e4, st4⟩ := getF X2 hx hZ hown (host := "") (Or.inl (hw _ (List.mem_of_getElem? (i := 20) rfl))) Via.refl e2 F3 (g := (mkF m 29 #[.val (.ref a0), .val (.int p1)] [(.ref a0), (.ref b2), (.ref b2)])) rfl rfl (hb hby d5_29)
    refine own_by st4 ?_
    show own_Go p e below _ (T4.setTop (mkF m 32 #[.val (.ref a0), .val (.int p1)] [(.long f_a0_successes), (.ref b2), (.ref b2)]))
    refine own_by (fun _ k => XS.aloadN X4.here hx rfl (hb hby d5_32) rfl rfl k) ?_
    show own_Go p e below _ (T4.setTop (mkF m 33 #[.val (.ref a0), .val (.int p1)] [(.ref a0), (.long f_a0_successes), (.ref b2), (.ref b2)]))
    have F5 : Fld Z h2 a0 "com/example/credence/credence/core/Evidence" "failures" "J" (.long f_a0_failures) := (P_F_a0_failures.ext E2)
    obtain ⟨T6, X6, e6, st6⟩ := getF X4 hx hZ hown (host := "") (Or.inl (hw _ (List.mem_of_getElem? (i := 22) rfl))) Via.refl e4 F5 (g := (mkF m 33 #[.val (.ref a0), .val (.int p1)] [(.ref a0), (.long f_a0_successes), (.ref b2), (.ref b2)])) rfl rfl (hb hby d5_33)
    refine own_by st6 ?_
    show own_Go p e below _ (T6.setTop (mkF m 36 #[.val (.ref a0), .val (.int p1)] [(.long f_a0_failures), (.long f_a0_successes), (.ref b2), (.ref b2)]))
    refine own_by (fun _ k => XS.lconst X6.here hx rfl (hb hby d5_36) k) ?_
    show own_Go p e below _ (T6.setTop (mkF m 37 #[.val (.ref a0), .val (.int p1)] [(.long (1 : Int64)), (.long f_a0_failures), (.long f_a0_successes), (.ref b2), (.ref b2)]))
    refine own_by (fun _ k => XS.ladd X6.here hx rfl (hb hby d5_37) rfl k) ?_
    show own_Go p e below _ (T6.setTop (mkF m 38 #[.val (.ref a0), .val (.int p1)] [(.long (f_a0_failures + (1 : Int64))), (.long f_a0_successes), (.ref b2), (.ref b2)]))
    obtain ⟨_, _, ⟨T7, L7, k7, n7⟩, -, X7, ⟨Lc7, hQ7, l7, y7, z7⟩, st7⟩ := X6.specialBack hx (y := (⟨"com/example/credence/credence/core/Evidence", "<init>", "(JJ)V"⟩ : MethodName)) rfl hown (mvT hZ (hw _ (List.mem_of_getElem? (i := 30) rfl))) (mvT hZ (hw _ (List.mem_of_getElem? (i := 10) rfl))) (mvT hZ (hw _ (List.mem_of_getElem? (i := 11) rfl))) (by decide) (backOf (W := 1) (rm2 l Z A0 hw [] b2 f_a0_successes (f_a0_failures + (1 : Int64)) (0 : Int64) (0 : Int64) h2 n0 Z2 hp_0 hp_1 A2 F_successes_b2 ge_b2 F_failures_b2) hZ (hw _ (List.mem_of_getElem? (i := 11) rfl)) (hw _ (List.mem_of_getElem? (i := 8) rfl)) (by decide) (by decide)) (g := (mkF m 38 #[.val (.ref a0), .val (.int p1)] [(.long (f_a0_failures + (1 : Int64))), (.long f_a0_successes), (.ref b2), (.ref b2)])) rfl (by rw [hml]; rfl) (Steps.refl _) (a := b2) (argsL := [(.long f_a0_successes), (.long (f_a0_failures + (1 : Int64)))]) (rest := [(.ref b2)]) (lenOf pd_9 rfl) rfl (by show 2 * 0 + _ ≤ _; exact Nat.le_of_eq rfl) (hb hby d5_38) (fun _ _ => ⟨rfl, e6, (by decide : 1 + 0 ≤ _), (by decide : 2 + 0 ≤ _)⟩)
    dsimp only [Pt.U, Pt.locs, Pt.cells, Pt.slots] at X7 l7 y7 z7 st7 hQ7
    subst l7 y7 z7
    obtain ⟨rfl, Nq7, Kq7, F8, F9, F10⟩ := hQ7
    have N7 := Fr.app N0 Nq7
    have K7 : Keep h0 T7.heap [] := K2.trans Kq7 ((allS (Or.inr sz_b2) all0))
    have Z7 : n0 ≤ T7.heap.size := Nat.le_trans Z2 Kq7.1
    refine own_by (fun _ k => st7.trans k) ?_
    show own_Go p e below _ (T7.setTop (mkF m 41 #[.val (.ref a0), .val (.int p1)] [(.ref b2)]))
    exact own_retR X7 hx Bd.returns (by decide) rfl (hb hby d5_41) hlk rfl ⟨b2, f_a0_successes, (f_a0_failures + (1 : Int64)), rfl, N7, K7, ge_b2, sz_b2, F8, F9, F10, (Or.inl ⟨c1, rfl, rfl⟩)⟩ (by decide) (by decide)
  · skip
    refine own_by (fun _ k => XS.ifNo X0.here hx rfl (hb hby d5_1) rfl ((if0 _ _).trans (feq c1).1) k) ?_
    show own_Go p e below _ (s₁.setTop (mkF m 4 #[.val (.ref a0), .val (.int p1)] []))
    obtain ⟨T11, h11, X11, e11, E11, A11, D11, -, st11⟩ := newO X0 hx hZ hown (hw _ (List.mem_of_getElem? (i := 29) rfl)) (hw _ (List.mem_of_getElem? (i := 7) rfl)) (hw _ (List.mem_of_getElem? (i := 8) rfl)) e0 (g := (mkF m 4 #[.val (.ref a0), .val (.int p1)] [])) rfl (hb hby d5_4) (by decide) (by decide)
    obtain ⟨b11, g11⟩ : ∃ z, z = h0.size := ⟨_, rfl⟩
    have ge_b11 : n0 ≤ b11 := Nat.le_trans Z0 (Nat.le_of_eq g11.symm)
    have sz_b11 : h0.size ≤ b11 := Nat.le_trans (Keep.refl h0 []).1 (Nat.le_of_eq g11.symm)
    have K11 : Keep h0 h11 [] := (Keep.refl h0 []).ext E11
    have Z11 : n0 ≤ h11.size := Nat.le_trans Z0 E11.1
    rw [← g11] at A11 D11 st11
    have F_successes_b11 : Fld Z h11 b11 "com/example/credence/credence/core/Evidence" "successes" "J" (.long (0 : Int64)) := D11 (Or.inr (hw _ (List.mem_of_getElem? (i := 21) rfl))) (ty := .long) (by decide)
    have F_failures_b11 : Fld Z h11 b11 "com/example/credence/credence/core/Evidence" "failures" "J" (.long (0 : Int64)) := D11 (Or.inr (hw _ (List.mem_of_getElem? (i := 23) rfl))) (ty := .long) (by decide)
    refine own_by st11 ?_
    show own_Go p e below _ (T11.setTop (mkF m 7 #[.val (.ref a0), .val (.int p1)] [(.ref b11)]))
    refine own_by (fun _ k => XS.dup X11.here hx rfl (hb hby d5_7) rfl rfl k) ?_
    show own_Go p e below _ (T11.setTop (mkF m 8 #[.val (.ref a0), .val (.int p1)] [(.ref b11), (.ref b11)]))
    refine own_by (fun _ k => XS.aloadN X11.here hx rfl (hb hby d5_8) rfl rfl k) ?_
    show own_Go p e below _ (T11.setTop (mkF m 9 #[.val (.ref a0), .val (.int p1)] [(.ref a0), (.ref b11), (.ref b11)]))
    have F12 : Fld Z h11 a0 "com/example/credence/credence/core/Evidence" "successes" "J" (.long f_a0_successes) := (P_F_a0_successes.ext E11)
    obtain ⟨T13, X13, e13, st13⟩ := getF X11 hx hZ hown (host := "") (Or.inl (hw _ (List.mem_of_getElem? (i := 20) rfl))) Via.refl e11 F12 (g := (mkF m 9 #[.val (.ref a0), .val (.int p1)] [(.ref a0), (.ref b11), (.ref b11)])) rfl rfl (hb hby d5_9)
    refine own_by st13 ?_
    show own_Go p e below _ (T13.setTop (mkF m 12 #[.val (.ref a0), .val (.int p1)] [(.long f_a0_successes), (.ref b11), (.ref b11)]))
    refine own_by (fun _ k => XS.lconst X13.here hx rfl (hb hby d5_12) k) ?_
    show own_Go p e below _ (T13.setTop (mkF m 13 #[.val (.ref a0), .val (.int p1)] [(.long (1 : Int64)), (.long f_a0_successes), (.ref b11), (.ref b11)]))
    refine own_by (fun _ k => XS.ladd X13.here hx rfl (hb hby d5_13) rfl k) ?_
    show own_Go p e below _ (T13.setTop (mkF m 14 #[.val (.ref a0), .val (.int p1)] [(.long (f_a0_successes + (1 : Int64))), (.ref b11), (.ref b11)]))
    refine own_by (fun _ k => XS.aloadN X13.here hx rfl (hb hby d5_14) rfl rfl k) ?_
    show own_Go p e below _ (T13.setTop (mkF m 15 #[.val (.ref a0), .val (.int p1)] [(.ref a0), (.long (f_a0_successes + (1 : Int64))), (.ref b11), (.ref b11)]))
    have F14 : Fld Z h11 a0 "com/example/credence/credence/core/Evidence" "failures" "J" (.long f_a0_failures) := (P_F_a0_failures.ext E11)
    obtain ⟨T15, X15, e15, st15⟩ := getF X13 hx hZ hown (host := "") (Or.inl (hw _ (List.mem_of_getElem? (i := 22) rfl))) Via.refl e13 F14 (g := (mkF m 15 #[.val (.ref a0), .val (.int p1)] [(.ref a0), (.long (f_a0_successes + (1 : Int64))), (.ref b11), (.ref b11)])) rfl rfl (hb hby d5_15)
    refine own_by st15 ?_
    show own_Go p e below _ (T15.setTop (mkF m 18 #[.val (.ref a0), .val (.int p1)] [(.long f_a0_failures), (.long (f_a0_successes + (1 : Int64))), (.ref b11), (.ref b11)]))
    obtain ⟨_, _, ⟨T16, L16, k16, n16⟩, -, X16, ⟨Lc16, hQ16, l16, y16, z16⟩, st16⟩ := X15.specialBack hx (y := (⟨"com/example/credence/credence/core/Evidence", "<init>", "(JJ)V"⟩ : MethodName)) rfl hown (mvT hZ (hw _ (List.mem_of_getElem? (i := 30) rfl))) (mvT hZ (hw _ (List.mem_of_getElem? (i := 10) rfl))) (mvT hZ (hw _ (List.mem_of_getElem? (i := 11) rfl))) (by decide) (backOf (W := 1) (rm2 l Z A0 hw [] b11 (f_a0_successes + (1 : Int64)) f_a0_failures (0 : Int64) (0 : Int64) h11 n0 Z11 hp_2 hp_3 A11 F_successes_b11 ge_b11 F_failures_b11) hZ (hw _ (List.mem_of_getElem? (i := 11) rfl)) (hw _ (List.mem_of_getElem? (i := 8) rfl)) (by decide) (by decide)) (g := (mkF m 18 #[.val (.ref a0), .val (.int p1)] [(.long f_a0_failures), (.long (f_a0_successes + (1 : Int64))), (.ref b11), (.ref b11)])) rfl (by rw [hml]; rfl) (Steps.refl _) (a := b11) (argsL := [(.long (f_a0_successes + (1 : Int64))), (.long f_a0_failures)]) (rest := [(.ref b11)]) (lenOf pd_9 rfl) rfl (by show 2 * 0 + _ ≤ _; exact Nat.le_of_eq rfl) (hb hby d5_18) (fun _ _ => ⟨rfl, e15, (by decide : 1 + 0 ≤ _), (by decide : 2 + 0 ≤ _)⟩)
    dsimp only [Pt.U, Pt.locs, Pt.cells, Pt.slots] at X16 l16 y16 z16 st16 hQ16
    subst l16 y16 z16
    obtain ⟨rfl, Nq16, Kq16, F17, F18, F19⟩ := hQ16
    have N16 := Fr.app N0 Nq16
    have K16 : Keep h0 T16.heap [] := K11.trans Kq16 ((allS (Or.inr sz_b11) all0))
    have Z16 : n0 ≤ T16.heap.size := Nat.le_trans Z11 Kq16.1
    refine own_by (fun _ k => st16.trans k) ?_
    show own_Go p e below _ (T16.setTop (mkF m 21 #[.val (.ref a0), .val (.int p1)] [(.ref b11)]))
    refine own_by (fun _ k => XS.goto X16.here hx rfl (pc0 := 21) (pc' := 41) rfl (hb hby d5_21) (by decide) (by decide) k) ?_
    show own_Go p e below _ (T16.setTop (mkF m 41 #[.val (.ref a0), .val (.int p1)] [(.ref b11)]))
    exact own_retR X16 hx Bd.returns (by decide) rfl (hb hby d5_41) hlk rfl ⟨b11, (f_a0_successes + (1 : Int64)), f_a0_failures, rfl, N16, K16, ge_b11, sz_b11, F17, F18, F19, (Or.inr (⟨c1, rfl, rfl⟩))⟩ (by decide) (by decide)
theorem pd_2 : parseMethodDescriptor "(JJ)J" = some ⟨[.long, .long], some .long⟩ := by decide +kernel
theorem pd_24 : parseMethodDescriptor "(Z)Lcom/example/credence/credence/core/Evidence;" = some ⟨[.boolean], some (.object "com/example/credence/credence/core/Evidence")⟩ := by decide +kernel
theorem pd_31 : parseMethodDescriptor "()J" = some ⟨[], some .long⟩ := by decide +kernel
theorem pn_0 : plainName "com/example/credence/credence/core/EvidencePlusPinLaw" = true := by first | (simp [plainName, overriddenIn]; done) | decide +kernel
theorem ef_0 (m : MethodId) (q0 : Int64) (q1 : Int64) (p2 : Int32) : entryFrame m #[(.long q0), (.long q1), (.int p2)] maxLocals = mkF m 0 #[.val (.long q0), .second, .val (.long q1), .second, .val (.int p2), .unset, .unset, .unset, .unset, .unset, .unset, .unset, .unset, .unset, .unset, .unset] [] := by first | (simp [entryFrame, mkF, argsToLocals, Value.category, maxLocals]; done) | rfl
theorem ob_0_1 (q0 : Int64) (q1 : Int64) (p2 : Int32) (o2 : Int64) (o5 : Int64) (z14 : Int32) (hp3 : (((9223372036854775806 : Int64) < (q0 &&& (9223372036854775807 : Int64))) ∧ o2 = (9223372036854775806 : Int64)) ∨ ((¬ ((9223372036854775806 : Int64) < (q0 &&& (9223372036854775807 : Int64)))) ∧ o2 = (q0 &&& (9223372036854775807 : Int64)))) (hp6 : (((9223372036854775806 : Int64) < (q1 &&& (9223372036854775807 : Int64))) ∧ o5 = (9223372036854775806 : Int64)) ∨ ((¬ ((9223372036854775806 : Int64) < (q1 &&& (9223372036854775807 : Int64)))) ∧ o5 = (q1 &&& (9223372036854775807 : Int64)))) (hj15 : (((p2 &&& (1 : Int32)) = (0 : Int32)) ∧ z14 = (0 : Int32)) ∨ ((¬ ((p2 &&& (1 : Int32)) = (0 : Int32))) ∧ z14 = (1 : Int32))) : ¬ (o2 < (0 : Int64)) := by
  have d1 := own_landNN q0
  have d2 := own_landNN q1
  generalize (q0 &&& (9223372036854775807 : Int64)) = D1 at *
  generalize (q1 &&& (9223372036854775807 : Int64)) = D2 at *
  grind
theorem ob_0_2 (q0 : Int64) (q1 : Int64) (p2 : Int32) (o2 : Int64) (o5 : Int64) (z14 : Int32) (hp3 : (((9223372036854775806 : Int64) < (q0 &&& (9223372036854775807 : Int64))) ∧ o2 = (9223372036854775806 : Int64)) ∨ ((¬ ((9223372036854775806 : Int64) < (q0 &&& (9223372036854775807 : Int64)))) ∧ o2 = (q0 &&& (9223372036854775807 : Int64)))) (hp6 : (((9223372036854775806 : Int64) < (q1 &&& (9223372036854775807 : Int64))) ∧ o5 = (9223372036854775806 : Int64)) ∨ ((¬ ((9223372036854775806 : Int64) < (q1 &&& (9223372036854775807 : Int64)))) ∧ o5 = (q1 &&& (9223372036854775807 : Int64)))) (hj15 : (((p2 &&& (1 : Int32)) = (0 : Int32)) ∧ z14 = (0 : Int32)) ∨ ((¬ ((p2 &&& (1 : Int32)) = (0 : Int32))) ∧ z14 = (1 : Int32))) : ¬ (o5 < (0 : Int64)) := by
  have d1 := own_landNN q0
  have d2 := own_landNN q1
  generalize (q0 &&& (9223372036854775807 : Int64)) = D1 at *
  generalize (q1 &&& (9223372036854775807 : Int64)) = D2 at *
  grind
theorem ob_0_3 (q0 : Int64) (q1 : Int64) (p2 : Int32) (o2 : Int64) (o5 : Int64) (z14 : Int32) (hp3 : (((9223372036854775806 : Int64) < (q0 &&& (9223372036854775807 : Int64))) ∧ o2 = (9223372036854775806 : Int64)) ∨ ((¬ ((9223372036854775806 : Int64) < (q0 &&& (9223372036854775807 : Int64)))) ∧ o2 = (q0 &&& (9223372036854775807 : Int64)))) (hp6 : (((9223372036854775806 : Int64) < (q1 &&& (9223372036854775807 : Int64))) ∧ o5 = (9223372036854775806 : Int64)) ∨ ((¬ ((9223372036854775806 : Int64) < (q1 &&& (9223372036854775807 : Int64)))) ∧ o5 = (q1 &&& (9223372036854775807 : Int64)))) (hj15 : (((p2 &&& (1 : Int32)) = (0 : Int32)) ∧ z14 = (0 : Int32)) ∨ ((¬ ((p2 &&& (1 : Int32)) = (0 : Int32))) ∧ z14 = (1 : Int32))) : ¬ (o2 < (0 : Int64)) := by
  have d1 := own_landNN q0
  have d2 := own_landNN q1
  generalize (q0 &&& (9223372036854775807 : Int64)) = D1 at *
  generalize (q1 &&& (9223372036854775807 : Int64)) = D2 at *
  grind
theorem ob_0_4 (q0 : Int64) (q1 : Int64) (p2 : Int32) (o2 : Int64) (o5 : Int64) (z14 : Int32) (hp3 : (((9223372036854775806 : Int64) < (q0 &&& (9223372036854775807 : Int64))) ∧ o2 = (9223372036854775806 : Int64)) ∨ ((¬ ((9223372036854775806 : Int64) < (q0 &&& (9223372036854775807 : Int64)))) ∧ o2 = (q0 &&& (9223372036854775807 : Int64)))) (hp6 : (((9223372036854775806 : Int64) < (q1 &&& (9223372036854775807 : Int64))) ∧ o5 = (9223372036854775806 : Int64)) ∨ ((¬ ((9223372036854775806 : Int64) < (q1 &&& (9223372036854775807 : Int64)))) ∧ o5 = (q1 &&& (9223372036854775807 : Int64)))) (hj15 : (((p2 &&& (1 : Int32)) = (0 : Int32)) ∧ z14 = (0 : Int32)) ∨ ((¬ ((p2 &&& (1 : Int32)) = (0 : Int32))) ∧ z14 = (1 : Int32))) : ¬ ((o5 + (1 : Int64)) < (0 : Int64)) := by
  have d1 := own_landNN q0
  have d2 := own_landNN q1
  generalize (q0 &&& (9223372036854775807 : Int64)) = D1 at *
  generalize (q1 &&& (9223372036854775807 : Int64)) = D2 at *
  grind
theorem ob_0_5 (q0 : Int64) (q1 : Int64) (p2 : Int32) (o2 : Int64) (o5 : Int64) (z14 : Int32) (hp3 : (((9223372036854775806 : Int64) < (q0 &&& (9223372036854775807 : Int64))) ∧ o2 = (9223372036854775806 : Int64)) ∨ ((¬ ((9223372036854775806 : Int64) < (q0 &&& (9223372036854775807 : Int64)))) ∧ o2 = (q0 &&& (9223372036854775807 : Int64)))) (hp6 : (((9223372036854775806 : Int64) < (q1 &&& (9223372036854775807 : Int64))) ∧ o5 = (9223372036854775806 : Int64)) ∨ ((¬ ((9223372036854775806 : Int64) < (q1 &&& (9223372036854775807 : Int64)))) ∧ o5 = (q1 &&& (9223372036854775807 : Int64)))) (hj15 : (((p2 &&& (1 : Int32)) = (0 : Int32)) ∧ z14 = (0 : Int32)) ∨ ((¬ ((p2 &&& (1 : Int32)) = (0 : Int32))) ∧ z14 = (1 : Int32))) : ¬ ((o2 + (1 : Int64)) < (0 : Int64)) := by
  have d1 := own_landNN q0
  have d2 := own_landNN q1
  generalize (q0 &&& (9223372036854775807 : Int64)) = D1 at *
  generalize (q1 &&& (9223372036854775807 : Int64)) = D2 at *
  grind
theorem ob_0_6 (q0 : Int64) (q1 : Int64) (p2 : Int32) (o2 : Int64) (o5 : Int64) (z14 : Int32) (hp3 : (((9223372036854775806 : Int64) < (q0 &&& (9223372036854775807 : Int64))) ∧ o2 = (9223372036854775806 : Int64)) ∨ ((¬ ((9223372036854775806 : Int64) < (q0 &&& (9223372036854775807 : Int64)))) ∧ o2 = (q0 &&& (9223372036854775807 : Int64)))) (hp6 : (((9223372036854775806 : Int64) < (q1 &&& (9223372036854775807 : Int64))) ∧ o5 = (9223372036854775806 : Int64)) ∨ ((¬ ((9223372036854775806 : Int64) < (q1 &&& (9223372036854775807 : Int64)))) ∧ o5 = (q1 &&& (9223372036854775807 : Int64)))) (hj15 : (((p2 &&& (1 : Int32)) = (0 : Int32)) ∧ z14 = (0 : Int32)) ∨ ((¬ ((p2 &&& (1 : Int32)) = (0 : Int32))) ∧ z14 = (1 : Int32))) : ¬ (o5 < (0 : Int64)) := by
  have d1 := own_landNN q0
  have d2 := own_landNN q1
  generalize (q0 &&& (9223372036854775807 : Int64)) = D1 at *
  generalize (q1 &&& (9223372036854775807 : Int64)) = D2 at *
  grind
theorem ob_0_7 (q0 : Int64) (q1 : Int64) (p2 : Int32) (o2 : Int64) (o5 : Int64) (z14 : Int32) (o23 : Int64) (o24 : Int64) (y40 : Int64) (y41 : Int64) (hp3 : (((9223372036854775806 : Int64) < (q0 &&& (9223372036854775807 : Int64))) ∧ o2 = (9223372036854775806 : Int64)) ∨ ((¬ ((9223372036854775806 : Int64) < (q0 &&& (9223372036854775807 : Int64)))) ∧ o2 = (q0 &&& (9223372036854775807 : Int64)))) (hp6 : (((9223372036854775806 : Int64) < (q1 &&& (9223372036854775807 : Int64))) ∧ o5 = (9223372036854775806 : Int64)) ∨ ((¬ ((9223372036854775806 : Int64) < (q1 &&& (9223372036854775807 : Int64)))) ∧ o5 = (q1 &&& (9223372036854775807 : Int64)))) (hj15 : (((p2 &&& (1 : Int32)) = (0 : Int32)) ∧ z14 = (0 : Int32)) ∨ ((¬ ((p2 &&& (1 : Int32)) = (0 : Int32))) ∧ z14 = (1 : Int32))) (hp30 : ((z14 = (0 : Int32)) ∧ o23 = o2 ∧ o24 = (o5 + (1 : Int64))) ∨ ((¬ (z14 = (0 : Int32))) ∧ o23 = (o2 + (1 : Int64)) ∧ o24 = o5)) (hj42 : (∃ (v32 : Int64), (z14 = (0 : Int32)) ∧ ((o5 + (1 : Int64)) = v32) ∧ y40 = o2 ∧ y41 = v32) ∨ (∃ (v33 : Int64), (¬ (z14 = (0 : Int32))) ∧ ((o2 + (1 : Int64)) = v33) ∧ y40 = v33 ∧ y41 = o5)) (c44 : o23 = y40) (c46 : ¬ (o24 = y41)) : False := by
  have d1 := own_landNN q0
  have d2 := own_landNN q1
  generalize (q0 &&& (9223372036854775807 : Int64)) = D1 at *
  generalize (q1 &&& (9223372036854775807 : Int64)) = D2 at *
  grind
theorem ob_0_8 (q0 : Int64) (q1 : Int64) (p2 : Int32) (o2 : Int64) (o5 : Int64) (z14 : Int32) (o23 : Int64) (o24 : Int64) (y40 : Int64) (y41 : Int64) (hp3 : (((9223372036854775806 : Int64) < (q0 &&& (9223372036854775807 : Int64))) ∧ o2 = (9223372036854775806 : Int64)) ∨ ((¬ ((9223372036854775806 : Int64) < (q0 &&& (9223372036854775807 : Int64)))) ∧ o2 = (q0 &&& (9223372036854775807 : Int64)))) (hp6 : (((9223372036854775806 : Int64) < (q1 &&& (9223372036854775807 : Int64))) ∧ o5 = (9223372036854775806 : Int64)) ∨ ((¬ ((9223372036854775806 : Int64) < (q1 &&& (9223372036854775807 : Int64)))) ∧ o5 = (q1 &&& (9223372036854775807 : Int64)))) (hj15 : (((p2 &&& (1 : Int32)) = (0 : Int32)) ∧ z14 = (0 : Int32)) ∨ ((¬ ((p2 &&& (1 : Int32)) = (0 : Int32))) ∧ z14 = (1 : Int32))) (hp30 : ((z14 = (0 : Int32)) ∧ o23 = o2 ∧ o24 = (o5 + (1 : Int64))) ∨ ((¬ (z14 = (0 : Int32))) ∧ o23 = (o2 + (1 : Int64)) ∧ o24 = o5)) (hj42 : (∃ (v32 : Int64), (z14 = (0 : Int32)) ∧ ((o5 + (1 : Int64)) = v32) ∧ y40 = o2 ∧ y41 = v32) ∨ (∃ (v33 : Int64), (¬ (z14 = (0 : Int32))) ∧ ((o2 + (1 : Int64)) = v33) ∧ y40 = v33 ∧ y41 = o5)) (c44 : ¬ (o23 = y40)) : False := by
  have d1 := own_landNN q0
  have d2 := own_landNN q1
  generalize (q0 &&& (9223372036854775807 : Int64)) = D1 at *
  generalize (q1 &&& (9223372036854775807 : Int64)) = D2 at *
  grind
def Q0 (Z : State) (q0 : Int64) (q1 : Int64) (p2 : Int32) (h0 : Heap) (n0 : Nat) (v : Option Value) (h : Heap) (L : List Loc) : Prop := v = some (.int (1 : Int32)) ∧ Fr n0 L
set_option maxRecDepth 65536 in
set_option maxHeartbeats 40000000 in
theorem rm0 (l : Launch) (Z : State) (A0 : Array Value) (hw : ∀ d ∈ tables_1, d.before A0 Z = true) (ws : List Jvm.Cond) (q0 : Int64) (q1 : Int64) (p2 : Int32) (h0 : Heap) (n0 : Nat) (Z0 : n0 ≤ h0.size) :
    MetFree l x (head1 (Jvm.Cond.code x code maxLocals ret :: ws) room_1) (fun a U => a = #[(.long q0), (.long q1), (.int p2)] ∧ Z.Warmed39 U.vm ∧ U.heap = h0) (fun _ _ _ _ _ => True) (fun _ U o U' => ∃ v L, o = .returned v ∧ Q0 Z q0 q1 p2 h0 n0 v U'.heap L ∧ FrameEnd U o U' L 16 128) := by
  refine MetFree.of_bodySF (plainFor_of_name pn_0) hisR ?_
  intro p e s m args below meth c s₁ Bd hml0 hP hK
  obtain ⟨rfl, hZ, hh⟩ := hP
  have hx := Bd.exec
  have hby := Bd.bytes
  have hml : c.maxLocals = 16 := hml0
  have hlk : meth.locks = false := Bd.notSynchronized
  have hown : s.vm.findClass "com/example/credence/credence/core/EvidencePlusPinLaw" = some m.cls := findClass_of_methodNamed Bd.named
  have hnm := (name_of_methodNamed Bd.named Bd.method).1
  have X0 : Stand p l e room_1 s m #[(.long q0), (.long q1), (.int p2)] below meth c s₁ [] 0 0 := Stand.of_body Bd
  have e0 : s₁.heap = h0 := by rw [← hh, Bd.state]; rfl
  have N0 := Fr.nil n0
  show own_Go p e below (own_Fin s 16 128 (Q0 Z q0 q1 p2 h0 n0)) _
  refine own_by (fun t k => castTop (ef_0 m q0 q1 p2) k) ?_
  show own_Go p e below _ (s₁.setTop (mkF m 0 #[.val (.long q0), .second, .val (.long q1), .second, .val (.int p2), .unset, .unset, .unset, .unset, .unset, .unset, .unset, .unset, .unset, .unset, .unset] []))
  refine own_by (fun _ k => XS.lloadN X0.here hx rfl (hb hby at_0) rfl k) ?_
  show own_Go p e below _ (s₁.setTop (mkF m 1 #[.val (.long q0), .second, .val (.long q1), .second, .val (.int p2), .unset, .unset, .unset, .unset, .unset, .unset, .unset, .unset, .unset, .unset, .unset] [(.long q0)]))
  refine own_by (fun t k => X0.ldc2Long hx hown (mvT hZ (hw _ (List.mem_of_getElem? (i := 0) rfl))) (g := (mkF m 1 #[.val (.long q0), .second, .val (.long q1), .second, .val (.int p2), .unset, .unset, .unset, .unset, .unset, .unset, .unset, .unset, .unset, .unset, .unset] [(.long q0)])) rfl (hb hby at_1) _ k) ?_
  show own_Go p e below _ (s₁.setTop (mkF m 4 #[.val (.long q0), .second, .val (.long q1), .second, .val (.int p2), .unset, .unset, .unset, .unset, .unset, .unset, .unset, .unset, .unset, .unset, .unset] [(.long (9223372036854775807 : Int64)), (.long q0)]))
  refine own_by (fun _ k => XS.land X0.here hx rfl (hb hby at_4) rfl k) ?_
  show own_Go p e below _ (s₁.setTop (mkF m 5 #[.val (.long q0), .second, .val (.long q1), .second, .val (.int p2), .unset, .unset, .unset, .unset, .unset, .unset, .unset, .unset, .unset, .unset, .unset] [(.long (q0 &&& (9223372036854775807 : Int64)))]))
  refine own_by (fun t k => X0.ldc2Long hx hown (mvT hZ (hw _ (List.mem_of_getElem? (i := 1) rfl))) (g := (mkF m 5 #[.val (.long q0), .second, .val (.long q1), .second, .val (.int p2), .unset, .unset, .unset, .unset, .unset, .unset, .unset, .unset, .unset, .unset, .unset] [(.long (q0 &&& (9223372036854775807 : Int64)))])) rfl (hb hby at_5) _ k) ?_
  show own_Go p e below _ (s₁.setTop (mkF m 8 #[.val (.long q0), .second, .val (.long q1), .second, .val (.int p2), .unset, .unset, .unset, .unset, .unset, .unset, .unset, .unset, .unset, .unset, .unset] [(.long (9223372036854775806 : Int64)), (.long (q0 &&& (9223372036854775807 : Int64)))]))
  obtain ⟨_, _, ⟨T1, L1, k1, n1⟩, -, X1, ⟨Lc1, hQ1, l1, y1, z1⟩, st1⟩ := Jvm.LawKit.callS X0 hx (y := (⟨"java/lang/Math", "min", "(JJ)J"⟩ : MethodName)) hown (mvT hZ (hw _ (List.mem_of_getElem? (i := 2) rfl))) (mvT hZ (hw _ (List.mem_of_getElem? (i := 3) rfl))) (mvT hZ (hw _ (List.mem_of_getElem? (i := 4) rfl))) (mvT hZ (hw _ (List.mem_of_getElem? (i := 5) rfl))) (by decide) (backOf (W := 0) (rm1 l Z A0 hw [] (q0 &&& (9223372036854775807 : Int64)) (9223372036854775806 : Int64) h0 n0 Z0 ) hZ (hw _ (List.mem_of_getElem? (i := 5) rfl)) (hw _ (List.mem_of_getElem? (i := 4) rfl)) (by decide) (by decide)) (g := (mkF m 8 #[.val (.long q0), .second, .val (.long q1), .second, .val (.int p2), .unset, .unset, .unset, .unset, .unset, .unset, .unset, .unset, .unset, .unset, .unset] [(.long (9223372036854775806 : Int64)), (.long (q0 &&& (9223372036854775807 : Int64)))])) rfl (by rw [hml]; rfl) (argsL := [(.long (q0 &&& (9223372036854775807 : Int64))), (.long (9223372036854775806 : Int64))]) (rest := []) (lenOf pd_2 rfl) rfl (by show 2 * 0 + _ ≤ _; exact Nat.le_of_eq rfl) (hb hby at_8) (fun _ _ => ⟨rfl, e0, (by decide : 0 + 0 ≤ _), (by decide : 0 + 0 ≤ _)⟩)
  dsimp only [Pt.U, Pt.locs, Pt.cells, Pt.slots] at X1 l1 y1 z1 st1 hQ1
  subst l1 y1 z1
  obtain ⟨o2, rfl, Nq1, eq1, hp3⟩ := hQ1
  have N1 := Fr.app N0 Nq1
  refine own_by st1 ?_
  show own_Go p e below _ (T1.setTop (mkF m 11 #[.val (.long q0), .second, .val (.long q1), .second, .val (.int p2), .unset, .unset, .unset, .unset, .unset, .unset, .unset, .unset, .unset, .unset, .unset] [(.long o2)]))
  refine own_by (fun _ k => XS.lstore X1.here hx rfl (hb hby at_11) rfl (l' := #[.val (.long q0), .second, .val (.long q1), .second, .val (.int p2), .val (.long o2), .second, .unset, .unset, .unset, .unset, .unset, .unset, .unset, .unset, .unset]) rfl k) ?_
  show own_Go p e below _ (T1.setTop (mkF m 13 #[.val (.long q0), .second, .val (.long q1), .second, .val (.int p2), .val (.long o2), .second, .unset, .unset, .unset, .unset, .unset, .unset, .unset, .unset, .unset] []))
  refine own_by (fun _ k => XS.lloadN X1.here hx rfl (hb hby at_13) rfl k) ?_
  show own_Go p e below _ (T1.setTop (mkF m 14 #[.val (.long q0), .second, .val (.long q1), .second, .val (.int p2), .val (.long o2), .second, .unset, .unset, .unset, .unset, .unset, .unset, .unset, .unset, .unset] [(.long q1)]))
  refine own_by (fun t k => X1.ldc2Long hx hown (mvT hZ (hw _ (List.mem_of_getElem? (i := 0) rfl))) (g := (mkF m 14 #[.val (.long q0), .second, .val (.long q1), .second, .val (.int p2), .val (.long o2), .second, .unset, .unset, .unset, .unset, .unset, .unset, .unset, .unset, .unset] [(.long q1)])) rfl (hb hby at_14) _ k) ?_
  show own_Go p e below _ (T1.setTop (mkF m 17 #[.val (.long q0), .second, .val (.long q1), .second, .val (.int p2), .val (.long o2), .second, .unset, .unset, .unset, .unset, .unset, .unset, .unset, .unset, .unset] [(.long (9223372036854775807 : Int64)), (.long q1)]))
  refine own_by (fun _ k => XS.land X1.here hx rfl (hb hby at_17) rfl k) ?_
  show own_Go p e below _ (T1.setTop (mkF m 18 #[.val (.long q0), .second, .val (.long q1), .second, .val (.int p2), .val (.long o2), .second, .unset, .unset, .unset, .unset, .unset, .unset, .unset, .unset, .unset] [(.long (q1 &&& (9223372036854775807 : Int64)))]))
  refine own_by (fun t k => X1.ldc2Long hx hown (mvT hZ (hw _ (List.mem_of_getElem? (i := 1) rfl))) (g := (mkF m 18 #[.val (.long q0), .second, .val (.long q1), .second, .val (.int p2), .val (.long o2), .second, .unset, .unset, .unset, .unset, .unset, .unset, .unset, .unset, .unset] [(.long (q1 &&& (9223372036854775807 : Int64)))])) rfl (hb hby at_18) _ k) ?_
  show own_Go p e below _ (T1.setTop (mkF m 21 #[.val (.long q0), .second, .val (.long q1), .second, .val (.int p2), .val (.long o2), .second, .unset, .unset, .unset, .unset, .unset, .unset, .unset, .unset, .unset] [(.long (9223372036854775806 : Int64)), (.long (q1 &&& (9223372036854775807 : Int64)))]))
  obtain ⟨_, _, ⟨T4, L4, k4, n4⟩, -, X4, ⟨Lc4, hQ4, l4, y4, z4⟩, st4⟩ := Jvm.LawKit.callS X1 hx (y := (⟨"java/lang/Math", "min", "(JJ)J"⟩ : MethodName)) hown (mvT hZ (hw _ (List.mem_of_getElem? (i := 2) rfl))) (mvT hZ (hw _ (List.mem_of_getElem? (i := 3) rfl))) (mvT hZ (hw _ (List.mem_of_getElem? (i := 4) rfl))) (mvT hZ (hw _ (List.mem_of_getElem? (i := 5) rfl))) (by decide) (backOf (W := 0) (rm1 l Z A0 hw [] (q1 &&& (9223372036854775807 : Int64)) (9223372036854775806 : Int64) h0 n0 Z0 ) hZ (hw _ (List.mem_of_getElem? (i := 5) rfl)) (hw _ (List.mem_of_getElem? (i := 4) rfl)) (by decide) (by decide)) (g := (mkF m 21 #[.val (.long q0), .second, .val (.long q1), .second, .val (.int p2), .val (.long o2), .second, .unset, .unset, .unset, .unset, .unset, .unset, .unset, .unset, .unset] [(.long (9223372036854775806 : Int64)), (.long (q1 &&& (9223372036854775807 : Int64)))])) rfl (by rw [hml]; rfl) (argsL := [(.long (q1 &&& (9223372036854775807 : Int64))), (.long (9223372036854775806 : Int64))]) (rest := []) (lenOf pd_2 rfl) rfl (by show 2 * 0 + _ ≤ _; exact Nat.le_of_eq rfl) (hb hby at_21) (fun _ _ => ⟨rfl, eq1, (by decide : 0 + 0 ≤ _), (by decide : 0 + 0 ≤ _)⟩)
  dsimp only [Pt.U, Pt.locs, Pt.cells, Pt.slots] at X4 l4 y4 z4 st4 hQ4
  subst l4 y4 z4
  obtain ⟨o5, rfl, Nq4, eq4, hp6⟩ := hQ4
  have N4 := Fr.app N1 Nq4
  refine own_by st4 ?_
  show own_Go p e below _ (T4.setTop (mkF m 24 #[.val (.long q0), .second, .val (.long q1), .second, .val (.int p2), .val (.long o2), .second, .unset, .unset, .unset, .unset, .unset, .unset, .unset, .unset, .unset] [(.long o5)]))
  refine own_by (fun _ k => XS.lstore X4.here hx rfl (hb hby at_24) rfl (l' := #[.val (.long q0), .second, .val (.long q1), .second, .val (.int p2), .val (.long o2), .second, .val (.long o5), .second, .unset, .unset, .unset, .unset, .unset, .unset, .unset]) rfl k) ?_
  show own_Go p e below _ (T4.setTop (mkF m 26 #[.val (.long q0), .second, .val (.long q1), .second, .val (.int p2), .val (.long o2), .second, .val (.long o5), .second, .unset, .unset, .unset, .unset, .unset, .unset, .unset] []))
  refine own_by (fun _ k => XS.iload X4.here hx rfl (hb hby at_26) rfl k) ?_
  show own_Go p e below _ (T4.setTop (mkF m 28 #[.val (.long q0), .second, .val (.long q1), .second, .val (.int p2), .val (.long o2), .second, .val (.long o5), .second, .unset, .unset, .unset, .unset, .unset, .unset, .unset] [(.int p2)]))
  refine own_by (fun _ k => XS.iconst X4.here hx rfl (hb hby at_28) k) ?_
  show own_Go p e below _ (T4.setTop (mkF m 29 #[.val (.long q0), .second, .val (.long q1), .second, .val (.int p2), .val (.long o2), .second, .val (.long o5), .second, .unset, .unset, .unset, .unset, .unset, .unset, .unset] [(.int (1 : Int32)), (.int p2)]))
  refine own_by (fun _ k => XS.iand X4.here hx rfl (hb hby at_29) rfl k) ?_
  show own_Go p e below _ (T4.setTop (mkF m 30 #[.val (.long q0), .second, .val (.long q1), .second, .val (.int p2), .val (.long o2), .second, .val (.long o5), .second, .unset, .unset, .unset, .unset, .unset, .unset, .unset] [(.int (p2 &&& (1 : Int32)))]))
  have J8 : ∀ (T9 : State) (L10 : List Loc) (z14 : Int32), Stand p l e room_1 s m #[(.long q0), (.long q1), (.int p2)] below meth c T9 L10 0 0 → T9.heap = h0 → Fr n0 L10 → ((((p2 &&& (1 : Int32)) = (0 : Int32)) ∧ z14 = (0 : Int32)) ∨ ((¬ ((p2 &&& (1 : Int32)) = (0 : Int32))) ∧ z14 = (1 : Int32))) → own_Go p e below (own_Fin s 16 128 (Q0 Z q0 q1 p2 h0 n0)) (T9.setTop (mkF m 38 #[.val (.long q0), .second, .val (.long q1), .second, .val (.int p2), .val (.long o2), .second, .val (.long o5), .second, .unset, .unset, .unset, .unset, .unset, .unset, .unset] [(.int z14)])) := by
    intro T9 L10 z14 X11 e12 N13 hj15
    refine own_by (fun _ k => XS.istore X11.here hx rfl (hb hby at_38) rfl (l' := #[.val (.long q0), .second, .val (.long q1), .second, .val (.int p2), .val (.long o2), .second, .val (.long o5), .second, .val (.int z14), .unset, .unset, .unset, .unset, .unset, .unset]) rfl k) ?_
    show own_Go p e below _ (T9.setTop (mkF m 40 #[.val (.long q0), .second, .val (.long q1), .second, .val (.int p2), .val (.long o2), .second, .val (.long o5), .second, .val (.int z14), .unset, .unset, .unset, .unset, .unset, .unset] []))
    obtain ⟨T16, h16, X16, e16, E16, A16, D16, -, st16⟩ := newO X11 hx hZ hown (hw _ (List.mem_of_getElem? (i := 6) rfl)) (hw _ (List.mem_of_getElem? (i := 7) rfl)) (hw _ (List.mem_of_getElem? (i := 8) rfl)) e12 (g := (mkF m 40 #[.val (.long q0), .second, .val (.long q1), .second, .val (.int p2), .val (.long o2), .second, .val (.long o5), .second, .val (.int z14), .unset, .unset, .unset, .unset, .unset, .unset] [])) rfl (hb hby at_40) (by decide) (by decide)
    obtain ⟨b16, g16⟩ : ∃ z, z = h0.size := ⟨_, rfl⟩
    have ge_b16 : n0 ≤ b16 := Nat.le_trans Z0 (Nat.le_of_eq g16.symm)
    have sz_b16 : h0.size ≤ b16 := Nat.le_trans (Keep.refl h0 []).1 (Nat.le_of_eq g16.symm)
    have K16 : Keep h0 h16 [] := (Keep.refl h0 []).ext E16
    have Z16 : n0 ≤ h16.size := Nat.le_trans Z0 E16.1
    rw [← g16] at A16 D16 st16
    have F_successes_b16 : Fld Z h16 b16 "com/example/credence/credence/core/Evidence" "successes" "J" (.long (0 : Int64)) := D16 (Or.inr (hw _ (List.mem_of_getElem? (i := 21) rfl))) (ty := .long) (by decide)
    have F_failures_b16 : Fld Z h16 b16 "com/example/credence/credence/core/Evidence" "failures" "J" (.long (0 : Int64)) := D16 (Or.inr (hw _ (List.mem_of_getElem? (i := 23) rfl))) (ty := .long) (by decide)
    refine own_by st16 ?_
    show own_Go p e below _ (T16.setTop (mkF m 43 #[.val (.long q0), .second, .val (.long q1), .second, .val (.int p2), .val (.long o2), .second, .val (.long o5), .second, .val (.int z14), .unset, .unset, .unset, .unset, .unset, .unset] [(.ref b16)]))
    refine own_by (fun _ k => XS.dup X16.here hx rfl (hb hby at_43) rfl rfl k) ?_
    show own_Go p e below _ (T16.setTop (mkF m 44 #[.val (.long q0), .second, .val (.long q1), .second, .val (.int p2), .val (.long o2), .second, .val (.long o5), .second, .val (.int z14), .unset, .unset, .unset, .unset, .unset, .unset] [(.ref b16), (.ref b16)]))
    refine own_by (fun _ k => XS.lload X16.here hx rfl (hb hby at_44) rfl k) ?_
    show own_Go p e below _ (T16.setTop (mkF m 46 #[.val (.long q0), .second, .val (.long q1), .second, .val (.int p2), .val (.long o2), .second, .val (.long o5), .second, .val (.int z14), .unset, .unset, .unset, .unset, .unset, .unset] [(.long o2), (.ref b16), (.ref b16)]))
    refine own_by (fun _ k => XS.lload X16.here hx rfl (hb hby at_46) rfl k) ?_
    show own_Go p e below _ (T16.setTop (mkF m 48 #[.val (.long q0), .second, .val (.long q1), .second, .val (.int p2), .val (.long o2), .second, .val (.long o5), .second, .val (.int z14), .unset, .unset, .unset, .unset, .unset, .unset] [(.long o5), (.long o2), (.ref b16), (.ref b16)]))
    obtain ⟨_, _, ⟨T17, L17, k17, n17⟩, -, X17, ⟨Lc17, hQ17, l17, y17, z17⟩, st17⟩ := X16.specialBack hx (y := (⟨"com/example/credence/credence/core/Evidence", "<init>", "(JJ)V"⟩ : MethodName)) rfl hown (mvT hZ (hw _ (List.mem_of_getElem? (i := 9) rfl))) (mvT hZ (hw _ (List.mem_of_getElem? (i := 10) rfl))) (mvT hZ (hw _ (List.mem_of_getElem? (i := 11) rfl))) (by decide) (backOf (W := 1) (rm2 l Z A0 hw [] b16 o2 o5 (0 : Int64) (0 : Int64) h16 n0 Z16 (ob_0_1 q0 q1 p2 o2 o5 z14 hp3 hp6 hj15) (ob_0_2 q0 q1 p2 o2 o5 z14 hp3 hp6 hj15) A16 F_successes_b16 ge_b16 F_failures_b16) hZ (hw _ (List.mem_of_getElem? (i := 11) rfl)) (hw _ (List.mem_of_getElem? (i := 8) rfl)) (by decide) (by decide)) (g := (mkF m 48 #[.val (.long q0), .second, .val (.long q1), .second, .val (.int p2), .val (.long o2), .second, .val (.long o5), .second, .val (.int z14), .unset, .unset, .unset, .unset, .unset, .unset] [(.long o5), (.long o2), (.ref b16), (.ref b16)])) rfl (by rw [hml]; rfl) (Steps.refl _) (a := b16) (argsL := [(.long o2), (.long o5)]) (rest := [(.ref b16)]) (lenOf pd_9 rfl) rfl (by show 2 * 0 + _ ≤ _; exact Nat.le_of_eq rfl) (hb hby at_48) (fun _ _ => ⟨rfl, e16, (by decide : 1 + 0 ≤ _), (by decide : 2 + 0 ≤ _)⟩)
    dsimp only [Pt.U, Pt.locs, Pt.cells, Pt.slots] at X17 l17 y17 z17 st17 hQ17
    subst l17 y17 z17
    obtain ⟨rfl, Nq17, Kq17, F18, F19, F20⟩ := hQ17
    have N17 := Fr.app N13 Nq17
    have K17 : Keep h0 T17.heap [] := K16.trans Kq17 ((allS (Or.inr sz_b16) all0))
    have Z17 : n0 ≤ T17.heap.size := Nat.le_trans Z16 Kq17.1
    refine own_by (fun _ k => st17.trans k) ?_
    show own_Go p e below _ (T17.setTop (mkF m 51 #[.val (.long q0), .second, .val (.long q1), .second, .val (.int p2), .val (.long o2), .second, .val (.long o5), .second, .val (.int z14), .unset, .unset, .unset, .unset, .unset, .unset] [(.ref b16)]))
    refine own_by (fun _ k => XS.astore X17.here hx rfl (hb hby at_51) rfl rfl (l' := #[.val (.long q0), .second, .val (.long q1), .second, .val (.int p2), .val (.long o2), .second, .val (.long o5), .second, .val (.int z14), .val (.ref b16), .unset, .unset, .unset, .unset, .unset]) rfl k) ?_
    show own_Go p e below _ (T17.setTop (mkF m 53 #[.val (.long q0), .second, .val (.long q1), .second, .val (.int p2), .val (.long o2), .second, .val (.long o5), .second, .val (.int z14), .val (.ref b16), .unset, .unset, .unset, .unset, .unset] []))
    refine own_by (fun _ k => XS.aload X17.here hx rfl (hb hby at_53) rfl rfl k) ?_
    show own_Go p e below _ (T17.setTop (mkF m 55 #[.val (.long q0), .second, .val (.long q1), .second, .val (.int p2), .val (.long o2), .second, .val (.long o5), .second, .val (.int z14), .val (.ref b16), .unset, .unset, .unset, .unset, .unset] [(.ref b16)]))
    refine own_by (fun _ k => XS.iload X17.here hx rfl (hb hby at_55) rfl k) ?_
    show own_Go p e below _ (T17.setTop (mkF m 57 #[.val (.long q0), .second, .val (.long q1), .second, .val (.int p2), .val (.long o2), .second, .val (.long o5), .second, .val (.int z14), .val (.ref b16), .unset, .unset, .unset, .unset, .unset] [(.int z14), (.ref b16)]))
    obtain ⟨cq21, kq21, q21a, q21b, q21c⟩ := isOf hZ rfl F18
    obtain ⟨_, _, ⟨T21, L21, k21, n21⟩, -, X21, ⟨Lc21, hQ21, l21, y21, z21⟩, st21⟩ := X17.virtualBack hx (y := (⟨"com/example/credence/credence/core/Evidence", "plus", "(Z)Lcom/example/credence/credence/core/Evidence;"⟩ : MethodName)) (z := (⟨"com/example/credence/credence/core/Evidence", "plus", "(Z)Lcom/example/credence/credence/core/Evidence;"⟩ : MethodName)) hown (mvT hZ (hw _ (List.mem_of_getElem? (i := 24) rfl))) (mvT hZ (hw _ (List.mem_of_getElem? (i := 25) rfl))) (notFace_of_selects (args := #[]) (mvT hZ (hw _ (List.mem_of_getElem? (i := 27) rfl)))) (mvT hZ (hw _ (List.mem_of_getElem? (i := 27) rfl))) (mvT hZ (hw _ (List.mem_of_getElem? (i := 26) rfl))) (by decide) (backOf (W := 0) (rm5 l Z A0 hw [] b16 z14 o2 o5 T17.heap n0 Z17 F19 F20 (ob_0_3 q0 q1 p2 o2 o5 z14 hp3 hp6 hj15) (ob_0_4 q0 q1 p2 o2 o5 z14 hp3 hp6 hj15) (ob_0_5 q0 q1 p2 o2 o5 z14 hp3 hp6 hj15) (ob_0_6 q0 q1 p2 o2 o5 z14 hp3 hp6 hj15)) hZ (hw _ (List.mem_of_getElem? (i := 28) rfl)) (hw _ (List.mem_of_getElem? (i := 8) rfl)) (by decide) (by decide)) q21a q21c (g := (mkF m 57 #[.val (.long q0), .second, .val (.long q1), .second, .val (.int p2), .val (.long o2), .second, .val (.long o5), .second, .val (.int z14), .val (.ref b16), .unset, .unset, .unset, .unset, .unset] [(.int z14), (.ref b16)])) rfl (by rw [hml]; rfl) (Steps.refl _) (argsL := [(.int z14)]) (rest := []) (lenOf pd_24 rfl) rfl (by show 2 * 0 + _ ≤ _; exact Nat.le_of_eq rfl) (hb hby at_57) (fun _ _ => ⟨rfl, rfl, (by decide : 1 + 1 ≤ _), (by decide : 2 + 2 ≤ _)⟩)
    dsimp only [Pt.U, Pt.locs, Pt.cells, Pt.slots] at X21 l21 y21 z21 st21 hQ21
    subst l21 y21 z21
    obtain ⟨b22, o23, o24, rfl, Nq21, Kq21, hp25, hp26, F27, F28, F29, hp30⟩ := hQ21
    have N21 := Fr.app N17 Nq21
    have K21 : Keep h0 T21.heap [] := K17.trans Kq21 (all0)
    have Z21 : n0 ≤ T21.heap.size := Nat.le_trans Z17 Kq21.1
    have sz_b22 : h0.size ≤ b22 := Nat.le_trans K17.1 hp26
    refine own_by (fun _ k => st21.trans k) ?_
    show own_Go p e below _ (T21.setTop (mkF m 60 #[.val (.long q0), .second, .val (.long q1), .second, .val (.int p2), .val (.long o2), .second, .val (.long o5), .second, .val (.int z14), .val (.ref b16), .unset, .unset, .unset, .unset, .unset] [(.ref b22)]))
    refine own_by (fun _ k => XS.astore X21.here hx rfl (hb hby at_60) rfl rfl (l' := #[.val (.long q0), .second, .val (.long q1), .second, .val (.int p2), .val (.long o2), .second, .val (.long o5), .second, .val (.int z14), .val (.ref b16), .val (.ref b22), .unset, .unset, .unset, .unset]) rfl k) ?_
    show own_Go p e below _ (T21.setTop (mkF m 62 #[.val (.long q0), .second, .val (.long q1), .second, .val (.int p2), .val (.long o2), .second, .val (.long o5), .second, .val (.int z14), .val (.ref b16), .val (.ref b22), .unset, .unset, .unset, .unset] []))
    refine own_by (fun _ k => XS.aload X21.here hx rfl (hb hby at_62) rfl rfl k) ?_
    show own_Go p e below _ (T21.setTop (mkF m 64 #[.val (.long q0), .second, .val (.long q1), .second, .val (.int p2), .val (.long o2), .second, .val (.long o5), .second, .val (.int z14), .val (.ref b16), .val (.ref b22), .unset, .unset, .unset, .unset] [(.ref b22)]))
    refine own_by (fun _ k => XS.ifnonnullYes X21.here hx rfl (pc0 := 64) (pc' := 69) rfl (hb hby at_64) rfl (by decide) (by decide) k) ?_
    show own_Go p e below _ (T21.setTop (mkF m 69 #[.val (.long q0), .second, .val (.long q1), .second, .val (.int p2), .val (.long o2), .second, .val (.long o5), .second, .val (.int z14), .val (.ref b16), .val (.ref b22), .unset, .unset, .unset, .unset] []))
    refine own_by (fun _ k => XS.iload X21.here hx rfl (hb hby at_69) rfl k) ?_
    show own_Go p e below _ (T21.setTop (mkF m 71 #[.val (.long q0), .second, .val (.long q1), .second, .val (.int p2), .val (.long o2), .second, .val (.long o5), .second, .val (.int z14), .val (.ref b16), .val (.ref b22), .unset, .unset, .unset, .unset] [(.int z14)]))
    have J34 : ∀ (T35 : State) (L36 : List Loc) (y40 : Int64) (y41 : Int64), Stand p l e room_1 s m #[(.long q0), (.long q1), (.int p2)] below meth c T35 L36 2 4 → T35.heap = T21.heap → Fr n0 L36 → ((∃ (v32 : Int64), (z14 = (0 : Int32)) ∧ ((o5 + (1 : Int64)) = v32) ∧ y40 = o2 ∧ y41 = v32) ∨ (∃ (v33 : Int64), (¬ (z14 = (0 : Int32))) ∧ ((o2 + (1 : Int64)) = v33) ∧ y40 = v33 ∧ y41 = o5)) → own_Go p e below (own_Fin s 16 128 (Q0 Z q0 q1 p2 h0 n0)) (T35.setTop (mkF m 97 #[.val (.long q0), .second, .val (.long q1), .second, .val (.int p2), .val (.long o2), .second, .val (.long o5), .second, .val (.int z14), .val (.ref b16), .val (.ref b22), .val (.long y40), .second, .val (.long y41), .second] [])) := by
      intro T35 L36 y40 y41 X37 e38 N39 hj42
      refine own_by (fun _ k => XS.aload X37.here hx rfl (hb hby at_97) rfl rfl k) ?_
      show own_Go p e below _ (T35.setTop (mkF m 99 #[.val (.long q0), .second, .val (.long q1), .second, .val (.int p2), .val (.long o2), .second, .val (.long o5), .second, .val (.int z14), .val (.ref b16), .val (.ref b22), .val (.long y40), .second, .val (.long y41), .second] [(.ref b22)]))
      obtain ⟨cq43, kq43, q43a, q43b, q43c⟩ := isOf hZ e38 F27
      obtain ⟨_, _, ⟨T43, L43, k43, n43⟩, -, X43, ⟨Lc43, hQ43, l43, y43, z43⟩, st43⟩ := X37.virtualBack hx (y := (⟨"com/example/credence/credence/core/Evidence", "successes", "()J"⟩ : MethodName)) (z := (⟨"com/example/credence/credence/core/Evidence", "successes", "()J"⟩ : MethodName)) hown (mvT hZ (hw _ (List.mem_of_getElem? (i := 31) rfl))) (mvT hZ (hw _ (List.mem_of_getElem? (i := 32) rfl))) (notFace_of_selects (args := #[]) (mvT hZ (hw _ (List.mem_of_getElem? (i := 34) rfl)))) (mvT hZ (hw _ (List.mem_of_getElem? (i := 34) rfl))) (mvT hZ (hw _ (List.mem_of_getElem? (i := 33) rfl))) (by decide) (backOf (W := 0) (rm6 l Z A0 hw [] b22 o23 T21.heap n0 Z21 F28) hZ (hw _ (List.mem_of_getElem? (i := 35) rfl)) (hw _ (List.mem_of_getElem? (i := 8) rfl)) (by decide) (by decide)) q43a q43c (g := (mkF m 99 #[.val (.long q0), .second, .val (.long q1), .second, .val (.int p2), .val (.long o2), .second, .val (.long o5), .second, .val (.int z14), .val (.ref b16), .val (.ref b22), .val (.long y40), .second, .val (.long y41), .second] [(.ref b22)])) rfl (by rw [hml]; rfl) (Steps.refl _) (argsL := []) (rest := []) (lenOf pd_31 rfl) rfl (by show 2 * 0 + _ ≤ _; exact Nat.le_of_eq rfl) (hb hby at_99) (fun _ _ => ⟨rfl, e38, (by decide : 2 + 0 ≤ _), (by decide : 4 + 0 ≤ _)⟩)
      dsimp only [Pt.U, Pt.locs, Pt.cells, Pt.slots] at X43 l43 y43 z43 st43 hQ43
      subst l43 y43 z43
      obtain ⟨rfl, Nq43, eq43⟩ := hQ43
      have N43 := Fr.app N39 Nq43
      refine own_by (fun _ k => st43.trans k) ?_
      show own_Go p e below _ (T43.setTop (mkF m 102 #[.val (.long q0), .second, .val (.long q1), .second, .val (.int p2), .val (.long o2), .second, .val (.long o5), .second, .val (.int z14), .val (.ref b16), .val (.ref b22), .val (.long y40), .second, .val (.long y41), .second] [(.long o23)]))
      refine own_by (fun _ k => XS.lload X43.here hx rfl (hb hby at_102) rfl k) ?_
      show own_Go p e below _ (T43.setTop (mkF m 104 #[.val (.long q0), .second, .val (.long q1), .second, .val (.int p2), .val (.long o2), .second, .val (.long o5), .second, .val (.int z14), .val (.ref b16), .val (.ref b22), .val (.long y40), .second, .val (.long y41), .second] [(.long y40), (.long o23)]))
      refine own_by (fun _ k => XS.lcmp X43.here hx rfl (hb hby at_104) rfl k) ?_
      show own_Go p e below _ (T43.setTop (mkF m 105 #[.val (.long q0), .second, .val (.long q1), .second, .val (.int p2), .val (.long o2), .second, .val (.long o5), .second, .val (.int z14), .val (.ref b16), .val (.ref b22), .val (.long y40), .second, .val (.long y41), .second] [(.int (lcmpW o23 y40))]))
      by_cases c44 : o23 = y40
      · skip
        refine own_by (fun _ k => XS.ifNo X43.here hx rfl (hb hby at_105) rfl ((if0 _ _).trans (teq ((lw_eq _ _).mpr c44)).2) k) ?_
        show own_Go p e below _ (T43.setTop (mkF m 108 #[.val (.long q0), .second, .val (.long q1), .second, .val (.int p2), .val (.long o2), .second, .val (.long o5), .second, .val (.int z14), .val (.ref b16), .val (.ref b22), .val (.long y40), .second, .val (.long y41), .second] []))
        refine own_by (fun _ k => XS.aload X43.here hx rfl (hb hby at_108) rfl rfl k) ?_
        show own_Go p e below _ (T43.setTop (mkF m 110 #[.val (.long q0), .second, .val (.long q1), .second, .val (.int p2), .val (.long o2), .second, .val (.long o5), .second, .val (.int z14), .val (.ref b16), .val (.ref b22), .val (.long y40), .second, .val (.long y41), .second] [(.ref b22)]))
        obtain ⟨cq45, kq45, q45a, q45b, q45c⟩ := isOf hZ eq43 F27
        obtain ⟨_, _, ⟨T45, L45, k45, n45⟩, -, X45, ⟨Lc45, hQ45, l45, y45, z45⟩, st45⟩ := X43.virtualBack hx (y := (⟨"com/example/credence/credence/core/Evidence", "failures", "()J"⟩ : MethodName)) (z := (⟨"com/example/credence/credence/core/Evidence", "failures", "()J"⟩ : MethodName)) hown (mvT hZ (hw _ (List.mem_of_getElem? (i := 36) rfl))) (mvT hZ (hw _ (List.mem_of_getElem? (i := 37) rfl))) (notFace_of_selects (args := #[]) (mvT hZ (hw _ (List.mem_of_getElem? (i := 39) rfl)))) (mvT hZ (hw _ (List.mem_of_getElem? (i := 39) rfl))) (mvT hZ (hw _ (List.mem_of_getElem? (i := 38) rfl))) (by decide) (backOf (W := 0) (rm7 l Z A0 hw [] b22 o24 T21.heap n0 Z21 F29) hZ (hw _ (List.mem_of_getElem? (i := 40) rfl)) (hw _ (List.mem_of_getElem? (i := 8) rfl)) (by decide) (by decide)) q45a q45c (g := (mkF m 110 #[.val (.long q0), .second, .val (.long q1), .second, .val (.int p2), .val (.long o2), .second, .val (.long o5), .second, .val (.int z14), .val (.ref b16), .val (.ref b22), .val (.long y40), .second, .val (.long y41), .second] [(.ref b22)])) rfl (by rw [hml]; rfl) (Steps.refl _) (argsL := []) (rest := []) (lenOf pd_31 rfl) rfl (by show 2 * 0 + _ ≤ _; exact Nat.le_of_eq rfl) (hb hby at_110) (fun _ _ => ⟨rfl, eq43, (by decide : 2 + 0 ≤ _), (by decide : 4 + 0 ≤ _)⟩)
        dsimp only [Pt.U, Pt.locs, Pt.cells, Pt.slots] at X45 l45 y45 z45 st45 hQ45
        subst l45 y45 z45
        obtain ⟨rfl, Nq45, eq45⟩ := hQ45
        have N45 := Fr.app N43 Nq45
        refine own_by (fun _ k => st45.trans k) ?_
        show own_Go p e below _ (T45.setTop (mkF m 113 #[.val (.long q0), .second, .val (.long q1), .second, .val (.int p2), .val (.long o2), .second, .val (.long o5), .second, .val (.int z14), .val (.ref b16), .val (.ref b22), .val (.long y40), .second, .val (.long y41), .second] [(.long o24)]))
        refine own_by (fun _ k => XS.lload X45.here hx rfl (hb hby at_113) rfl k) ?_
        show own_Go p e below _ (T45.setTop (mkF m 115 #[.val (.long q0), .second, .val (.long q1), .second, .val (.int p2), .val (.long o2), .second, .val (.long o5), .second, .val (.int z14), .val (.ref b16), .val (.ref b22), .val (.long y40), .second, .val (.long y41), .second] [(.long y41), (.long o24)]))
        refine own_by (fun _ k => XS.lcmp X45.here hx rfl (hb hby at_115) rfl k) ?_
        show own_Go p e below _ (T45.setTop (mkF m 116 #[.val (.long q0), .second, .val (.long q1), .second, .val (.int p2), .val (.long o2), .second, .val (.long o5), .second, .val (.int z14), .val (.ref b16), .val (.ref b22), .val (.long y40), .second, .val (.long y41), .second] [(.int (lcmpW o24 y41))]))
        by_cases c46 : o24 = y41
        · skip
          refine own_by (fun _ k => XS.ifNo X45.here hx rfl (hb hby at_116) rfl ((if0 _ _).trans (teq ((lw_eq _ _).mpr c46)).2) k) ?_
          show own_Go p e below _ (T45.setTop (mkF m 119 #[.val (.long q0), .second, .val (.long q1), .second, .val (.int p2), .val (.long o2), .second, .val (.long o5), .second, .val (.int z14), .val (.ref b16), .val (.ref b22), .val (.long y40), .second, .val (.long y41), .second] []))
          refine own_by (fun _ k => XS.aload X45.here hx rfl (hb hby at_119) rfl rfl k) ?_
          show own_Go p e below _ (T45.setTop (mkF m 121 #[.val (.long q0), .second, .val (.long q1), .second, .val (.int p2), .val (.long o2), .second, .val (.long o5), .second, .val (.int z14), .val (.ref b16), .val (.ref b22), .val (.long y40), .second, .val (.long y41), .second] [(.ref b16)]))
          have F47 : Fld Z T21.heap b16 "com/example/credence/credence/core/Evidence" "successes" "J" (.long o2) := (F19.keep Kq21 nin0)
          have F49 : Exa Z T21.heap b16 "com/example/credence/credence/core/Evidence" := (F18.keep Kq21)
          obtain ⟨cq48, kq48, q48a, q48b, q48c⟩ := isOf hZ eq45 F49
          obtain ⟨_, _, ⟨T48, L48, k48, n48⟩, -, X48, ⟨Lc48, hQ48, l48, y48, z48⟩, st48⟩ := X45.virtualBack hx (y := (⟨"com/example/credence/credence/core/Evidence", "successes", "()J"⟩ : MethodName)) (z := (⟨"com/example/credence/credence/core/Evidence", "successes", "()J"⟩ : MethodName)) hown (mvT hZ (hw _ (List.mem_of_getElem? (i := 31) rfl))) (mvT hZ (hw _ (List.mem_of_getElem? (i := 32) rfl))) (notFace_of_selects (args := #[]) (mvT hZ (hw _ (List.mem_of_getElem? (i := 34) rfl)))) (mvT hZ (hw _ (List.mem_of_getElem? (i := 34) rfl))) (mvT hZ (hw _ (List.mem_of_getElem? (i := 33) rfl))) (by decide) (backOf (W := 0) (rm6 l Z A0 hw [] b16 o2 T21.heap n0 Z21 F47) hZ (hw _ (List.mem_of_getElem? (i := 35) rfl)) (hw _ (List.mem_of_getElem? (i := 8) rfl)) (by decide) (by decide)) q48a q48c (g := (mkF m 121 #[.val (.long q0), .second, .val (.long q1), .second, .val (.int p2), .val (.long o2), .second, .val (.long o5), .second, .val (.int z14), .val (.ref b16), .val (.ref b22), .val (.long y40), .second, .val (.long y41), .second] [(.ref b16)])) rfl (by rw [hml]; rfl) (Steps.refl _) (argsL := []) (rest := []) (lenOf pd_31 rfl) rfl (by show 2 * 0 + _ ≤ _; exact Nat.le_of_eq rfl) (hb hby at_121) (fun _ _ => ⟨rfl, eq45, (by decide : 2 + 0 ≤ _), (by decide : 4 + 0 ≤ _)⟩)
          dsimp only [Pt.U, Pt.locs, Pt.cells, Pt.slots] at X48 l48 y48 z48 st48 hQ48
          subst l48 y48 z48
          obtain ⟨rfl, Nq48, eq48⟩ := hQ48
          have N48 := Fr.app N45 Nq48
          refine own_by (fun _ k => st48.trans k) ?_
          show own_Go p e below _ (T48.setTop (mkF m 124 #[.val (.long q0), .second, .val (.long q1), .second, .val (.int p2), .val (.long o2), .second, .val (.long o5), .second, .val (.int z14), .val (.ref b16), .val (.ref b22), .val (.long y40), .second, .val (.long y41), .second] [(.long o2)]))
          refine own_by (fun _ k => XS.lload X48.here hx rfl (hb hby at_124) rfl k) ?_
          show own_Go p e below _ (T48.setTop (mkF m 126 #[.val (.long q0), .second, .val (.long q1), .second, .val (.int p2), .val (.long o2), .second, .val (.long o5), .second, .val (.int z14), .val (.ref b16), .val (.ref b22), .val (.long y40), .second, .val (.long y41), .second] [(.long o2), (.long o2)]))
          refine own_by (fun _ k => XS.lcmp X48.here hx rfl (hb hby at_126) rfl k) ?_
          show own_Go p e below _ (T48.setTop (mkF m 127 #[.val (.long q0), .second, .val (.long q1), .second, .val (.int p2), .val (.long o2), .second, .val (.long o5), .second, .val (.int z14), .val (.ref b16), .val (.ref b22), .val (.long y40), .second, .val (.long y41), .second] [(.int (lcmpW o2 o2))]))
          refine own_by (fun _ k => XS.ifNo X48.here hx rfl (hb hby at_127) rfl ((if0 _ _).trans (teq ((lw_eq _ _).mpr (rfl : o2 = o2))).2) k) ?_
          show own_Go p e below _ (T48.setTop (mkF m 130 #[.val (.long q0), .second, .val (.long q1), .second, .val (.int p2), .val (.long o2), .second, .val (.long o5), .second, .val (.int z14), .val (.ref b16), .val (.ref b22), .val (.long y40), .second, .val (.long y41), .second] []))
          refine own_by (fun _ k => XS.aload X48.here hx rfl (hb hby at_130) rfl rfl k) ?_
          show own_Go p e below _ (T48.setTop (mkF m 132 #[.val (.long q0), .second, .val (.long q1), .second, .val (.int p2), .val (.long o2), .second, .val (.long o5), .second, .val (.int z14), .val (.ref b16), .val (.ref b22), .val (.long y40), .second, .val (.long y41), .second] [(.ref b16)]))
          have F50 : Fld Z T21.heap b16 "com/example/credence/credence/core/Evidence" "failures" "J" (.long o5) := (F20.keep Kq21 nin0)
          obtain ⟨cq51, kq51, q51a, q51b, q51c⟩ := isOf hZ eq48 F49
          obtain ⟨_, _, ⟨T51, L51, k51, n51⟩, -, X51, ⟨Lc51, hQ51, l51, y51, z51⟩, st51⟩ := X48.virtualBack hx (y := (⟨"com/example/credence/credence/core/Evidence", "failures", "()J"⟩ : MethodName)) (z := (⟨"com/example/credence/credence/core/Evidence", "failures", "()J"⟩ : MethodName)) hown (mvT hZ (hw _ (List.mem_of_getElem? (i := 36) rfl))) (mvT hZ (hw _ (List.mem_of_getElem? (i := 37) rfl))) (notFace_of_selects (args := #[]) (mvT hZ (hw _ (List.mem_of_getElem? (i := 39) rfl)))) (mvT hZ (hw _ (List.mem_of_getElem? (i := 39) rfl))) (mvT hZ (hw _ (List.mem_of_getElem? (i := 38) rfl))) (by decide) (backOf (W := 0) (rm7 l Z A0 hw [] b16 o5 T21.heap n0 Z21 F50) hZ (hw _ (List.mem_of_getElem? (i := 40) rfl)) (hw _ (List.mem_of_getElem? (i := 8) rfl)) (by decide) (by decide)) q51a q51c (g := (mkF m 132 #[.val (.long q0), .second, .val (.long q1), .second, .val (.int p2), .val (.long o2), .second, .val (.long o5), .second, .val (.int z14), .val (.ref b16), .val (.ref b22), .val (.long y40), .second, .val (.long y41), .second] [(.ref b16)])) rfl (by rw [hml]; rfl) (Steps.refl _) (argsL := []) (rest := []) (lenOf pd_31 rfl) rfl (by show 2 * 0 + _ ≤ _; exact Nat.le_of_eq rfl) (hb hby at_132) (fun _ _ => ⟨rfl, eq48, (by decide : 2 + 0 ≤ _), (by decide : 4 + 0 ≤ _)⟩)
          dsimp only [Pt.U, Pt.locs, Pt.cells, Pt.slots] at X51 l51 y51 z51 st51 hQ51
          subst l51 y51 z51
          obtain ⟨rfl, Nq51, eq51⟩ := hQ51
          have N51 := Fr.app N48 Nq51
          refine own_by (fun _ k => st51.trans k) ?_
          show own_Go p e below _ (T51.setTop (mkF m 135 #[.val (.long q0), .second, .val (.long q1), .second, .val (.int p2), .val (.long o2), .second, .val (.long o5), .second, .val (.int z14), .val (.ref b16), .val (.ref b22), .val (.long y40), .second, .val (.long y41), .second] [(.long o5)]))
          refine own_by (fun _ k => XS.lload X51.here hx rfl (hb hby at_135) rfl k) ?_
          show own_Go p e below _ (T51.setTop (mkF m 137 #[.val (.long q0), .second, .val (.long q1), .second, .val (.int p2), .val (.long o2), .second, .val (.long o5), .second, .val (.int z14), .val (.ref b16), .val (.ref b22), .val (.long y40), .second, .val (.long y41), .second] [(.long o5), (.long o5)]))
          refine own_by (fun _ k => XS.lcmp X51.here hx rfl (hb hby at_137) rfl k) ?_
          show own_Go p e below _ (T51.setTop (mkF m 138 #[.val (.long q0), .second, .val (.long q1), .second, .val (.int p2), .val (.long o2), .second, .val (.long o5), .second, .val (.int z14), .val (.ref b16), .val (.ref b22), .val (.long y40), .second, .val (.long y41), .second] [(.int (lcmpW o5 o5))]))
          refine own_by (fun _ k => XS.ifNo X51.here hx rfl (hb hby at_138) rfl ((if0 _ _).trans (teq ((lw_eq _ _).mpr (rfl : o5 = o5))).2) k) ?_
          show own_Go p e below _ (T51.setTop (mkF m 141 #[.val (.long q0), .second, .val (.long q1), .second, .val (.int p2), .val (.long o2), .second, .val (.long o5), .second, .val (.int z14), .val (.ref b16), .val (.ref b22), .val (.long y40), .second, .val (.long y41), .second] []))
          refine own_by (fun _ k => XS.iconst X51.here hx rfl (hb hby at_141) k) ?_
          show own_Go p e below _ (T51.setTop (mkF m 142 #[.val (.long q0), .second, .val (.long q1), .second, .val (.int p2), .val (.long o2), .second, .val (.long o5), .second, .val (.int z14), .val (.ref b16), .val (.ref b22), .val (.long y40), .second, .val (.long y41), .second] [(.int (1 : Int32))]))
          refine own_by (fun _ k => XS.goto X51.here hx rfl (pc0 := 142) (pc' := 146) rfl (hb hby at_142) (by decide) (by decide) k) ?_
          show own_Go p e below _ (T51.setTop (mkF m 146 #[.val (.long q0), .second, .val (.long q1), .second, .val (.int p2), .val (.long o2), .second, .val (.long o5), .second, .val (.int z14), .val (.ref b16), .val (.ref b22), .val (.long y40), .second, .val (.long y41), .second] [(.int (1 : Int32))]))
          exact own_retN X51 hx (t := .boolean) Bd.returns (by simp) (hb hby at_146) hlk eq51 ⟨rfl, N51⟩ (by decide) (by decide)
        · skip
          refine own_by (fun _ k => XS.ifYes X45.here hx rfl (pc0 := 116) (pc' := 145) rfl (hb hby at_116) rfl ((if0 _ _).trans (feq (fun q => c46 ((lw_eq _ _).mp q))).2) (by decide) (by decide) k) ?_
          show own_Go p e below _ (T45.setTop (mkF m 145 #[.val (.long q0), .second, .val (.long q1), .second, .val (.int p2), .val (.long o2), .second, .val (.long o5), .second, .val (.int z14), .val (.ref b16), .val (.ref b22), .val (.long y40), .second, .val (.long y41), .second] []))
          refine own_by (fun _ k => XS.iconst X45.here hx rfl (hb hby at_145) k) ?_
          show own_Go p e below _ (T45.setTop (mkF m 146 #[.val (.long q0), .second, .val (.long q1), .second, .val (.int p2), .val (.long o2), .second, .val (.long o5), .second, .val (.int z14), .val (.ref b16), .val (.ref b22), .val (.long y40), .second, .val (.long y41), .second] [(.int (0 : Int32))]))
          exact own_retN X45 hx (t := .boolean) Bd.returns (by simp) (hb hby at_146) hlk eq45 ⟨((ob_0_7 q0 q1 p2 o2 o5 z14 o23 o24 y40 y41 hp3 hp6 hj15 hp30 hj42 c44 c46)).elim, N45⟩ (by decide) (by decide)
      · skip
        refine own_by (fun _ k => XS.ifYes X43.here hx rfl (pc0 := 105) (pc' := 145) rfl (hb hby at_105) rfl ((if0 _ _).trans (feq (fun q => c44 ((lw_eq _ _).mp q))).2) (by decide) (by decide) k) ?_
        show own_Go p e below _ (T43.setTop (mkF m 145 #[.val (.long q0), .second, .val (.long q1), .second, .val (.int p2), .val (.long o2), .second, .val (.long o5), .second, .val (.int z14), .val (.ref b16), .val (.ref b22), .val (.long y40), .second, .val (.long y41), .second] []))
        refine own_by (fun _ k => XS.iconst X43.here hx rfl (hb hby at_145) k) ?_
        show own_Go p e below _ (T43.setTop (mkF m 146 #[.val (.long q0), .second, .val (.long q1), .second, .val (.int p2), .val (.long o2), .second, .val (.long o5), .second, .val (.int z14), .val (.ref b16), .val (.ref b22), .val (.long y40), .second, .val (.long y41), .second] [(.int (0 : Int32))]))
        exact own_retN X43 hx (t := .boolean) Bd.returns (by simp) (hb hby at_146) hlk eq43 ⟨((ob_0_8 q0 q1 p2 o2 o5 z14 o23 o24 y40 y41 hp3 hp6 hj15 hp30 hj42 c44)).elim, N43⟩ (by decide) (by decide)
    by_cases c31 : z14 = (0 : Int32)
    · skip
      refine own_by (fun _ k => XS.ifYes X21.here hx rfl (pc0 := 71) (pc' := 87) rfl (hb hby at_71) rfl ((if0 _ _).trans (teq c31).1) (by decide) (by decide) k) ?_
      show own_Go p e below _ (T21.setTop (mkF m 87 #[.val (.long q0), .second, .val (.long q1), .second, .val (.int p2), .val (.long o2), .second, .val (.long o5), .second, .val (.int z14), .val (.ref b16), .val (.ref b22), .unset, .unset, .unset, .unset] []))
      refine own_by (fun _ k => XS.lload X21.here hx rfl (hb hby at_87) rfl k) ?_
      show own_Go p e below _ (T21.setTop (mkF m 89 #[.val (.long q0), .second, .val (.long q1), .second, .val (.int p2), .val (.long o2), .second, .val (.long o5), .second, .val (.int z14), .val (.ref b16), .val (.ref b22), .unset, .unset, .unset, .unset] [(.long o2)]))
      refine own_by (fun _ k => XS.lstore X21.here hx rfl (hb hby at_89) rfl (l' := #[.val (.long q0), .second, .val (.long q1), .second, .val (.int p2), .val (.long o2), .second, .val (.long o5), .second, .val (.int z14), .val (.ref b16), .val (.ref b22), .val (.long o2), .second, .unset, .unset]) rfl k) ?_
      show own_Go p e below _ (T21.setTop (mkF m 91 #[.val (.long q0), .second, .val (.long q1), .second, .val (.int p2), .val (.long o2), .second, .val (.long o5), .second, .val (.int z14), .val (.ref b16), .val (.ref b22), .val (.long o2), .second, .unset, .unset] []))
      refine own_by (fun _ k => XS.lload X21.here hx rfl (hb hby at_91) rfl k) ?_
      show own_Go p e below _ (T21.setTop (mkF m 93 #[.val (.long q0), .second, .val (.long q1), .second, .val (.int p2), .val (.long o2), .second, .val (.long o5), .second, .val (.int z14), .val (.ref b16), .val (.ref b22), .val (.long o2), .second, .unset, .unset] [(.long o5)]))
      refine own_by (fun _ k => XS.lconst X21.here hx rfl (hb hby at_93) k) ?_
      show own_Go p e below _ (T21.setTop (mkF m 94 #[.val (.long q0), .second, .val (.long q1), .second, .val (.int p2), .val (.long o2), .second, .val (.long o5), .second, .val (.int z14), .val (.ref b16), .val (.ref b22), .val (.long o2), .second, .unset, .unset] [(.long (1 : Int64)), (.long o5)]))
      refine own_by (fun _ k => XS.ladd X21.here hx rfl (hb hby at_94) rfl k) ?_
      show own_Go p e below _ (T21.setTop (mkF m 95 #[.val (.long q0), .second, .val (.long q1), .second, .val (.int p2), .val (.long o2), .second, .val (.long o5), .second, .val (.int z14), .val (.ref b16), .val (.ref b22), .val (.long o2), .second, .unset, .unset] [(.long (o5 + (1 : Int64)))]))
      refine own_by (fun _ k => XS.lstore X21.here hx rfl (hb hby at_95) rfl (l' := #[.val (.long q0), .second, .val (.long q1), .second, .val (.int p2), .val (.long o2), .second, .val (.long o5), .second, .val (.int z14), .val (.ref b16), .val (.ref b22), .val (.long o2), .second, .val (.long (o5 + (1 : Int64))), .second]) rfl k) ?_
      show own_Go p e below _ (T21.setTop (mkF m 97 #[.val (.long q0), .second, .val (.long q1), .second, .val (.int p2), .val (.long o2), .second, .val (.long o5), .second, .val (.int z14), .val (.ref b16), .val (.ref b22), .val (.long o2), .second, .val (.long (o5 + (1 : Int64))), .second] []))
      generalize hv32 : (o5 + (1 : Int64)) = v32
      show own_Go p e below _ (T21.setTop (mkF m 97 #[.val (.long q0), .second, .val (.long q1), .second, .val (.int p2), .val (.long o2), .second, .val (.long o5), .second, .val (.int z14), .val (.ref b16), .val (.ref b22), .val (.long o2), .second, .val (.long v32), .second] []))
      exact J34 _ _ o2 v32 X21 rfl N21 (Or.inl ⟨v32, c31, hv32, rfl, rfl⟩)
    · skip
      refine own_by (fun _ k => XS.ifNo X21.here hx rfl (hb hby at_71) rfl ((if0 _ _).trans (feq c31).1) k) ?_
      show own_Go p e below _ (T21.setTop (mkF m 74 #[.val (.long q0), .second, .val (.long q1), .second, .val (.int p2), .val (.long o2), .second, .val (.long o5), .second, .val (.int z14), .val (.ref b16), .val (.ref b22), .unset, .unset, .unset, .unset] []))
      refine own_by (fun _ k => XS.lload X21.here hx rfl (hb hby at_74) rfl k) ?_
      show own_Go p e below _ (T21.setTop (mkF m 76 #[.val (.long q0), .second, .val (.long q1), .second, .val (.int p2), .val (.long o2), .second, .val (.long o5), .second, .val (.int z14), .val (.ref b16), .val (.ref b22), .unset, .unset, .unset, .unset] [(.long o2)]))
      refine own_by (fun _ k => XS.lconst X21.here hx rfl (hb hby at_76) k) ?_
      show own_Go p e below _ (T21.setTop (mkF m 77 #[.val (.long q0), .second, .val (.long q1), .second, .val (.int p2), .val (.long o2), .second, .val (.long o5), .second, .val (.int z14), .val (.ref b16), .val (.ref b22), .unset, .unset, .unset, .unset] [(.long (1 : Int64)), (.long o2)]))
      refine own_by (fun _ k => XS.ladd X21.here hx rfl (hb hby at_77) rfl k) ?_
      show own_Go p e below _ (T21.setTop (mkF m 78 #[.val (.long q0), .second, .val (.long q1), .second, .val (.int p2), .val (.long o2), .second, .val (.long o5), .second, .val (.int z14), .val (.ref b16), .val (.ref b22), .unset, .unset, .unset, .unset] [(.long (o2 + (1 : Int64)))]))
      refine own_by (fun _ k => XS.lstore X21.here hx rfl (hb hby at_78) rfl (l' := #[.val (.long q0), .second, .val (.long q1), .second, .val (.int p2), .val (.long o2), .second, .val (.long o5), .second, .val (.int z14), .val (.ref b16), .val (.ref b22), .val (.long (o2 + (1 : Int64))), .second, .unset, .unset]) rfl k) ?_
      show own_Go p e below _ (T21.setTop (mkF m 80 #[.val (.long q0), .second, .val (.long q1), .second, .val (.int p2), .val (.long o2), .second, .val (.long o5), .second, .val (.int z14), .val (.ref b16), .val (.ref b22), .val (.long (o2 + (1 : Int64))), .second, .unset, .unset] []))
      generalize hv33 : (o2 + (1 : Int64)) = v33
      show own_Go p e below _ (T21.setTop (mkF m 80 #[.val (.long q0), .second, .val (.long q1), .second, .val (.int p2), .val (.long o2), .second, .val (.long o5), .second, .val (.int z14), .val (.ref b16), .val (.ref b22), .val (.long v33), .second, .unset, .unset] []))
      refine own_by (fun _ k => XS.lload X21.here hx rfl (hb hby at_80) rfl k) ?_
      show own_Go p e below _ (T21.setTop (mkF m 82 #[.val (.long q0), .second, .val (.long q1), .second, .val (.int p2), .val (.long o2), .second, .val (.long o5), .second, .val (.int z14), .val (.ref b16), .val (.ref b22), .val (.long v33), .second, .unset, .unset] [(.long o5)]))
      refine own_by (fun _ k => XS.lstore X21.here hx rfl (hb hby at_82) rfl (l' := #[.val (.long q0), .second, .val (.long q1), .second, .val (.int p2), .val (.long o2), .second, .val (.long o5), .second, .val (.int z14), .val (.ref b16), .val (.ref b22), .val (.long v33), .second, .val (.long o5), .second]) rfl k) ?_
      show own_Go p e below _ (T21.setTop (mkF m 84 #[.val (.long q0), .second, .val (.long q1), .second, .val (.int p2), .val (.long o2), .second, .val (.long o5), .second, .val (.int z14), .val (.ref b16), .val (.ref b22), .val (.long v33), .second, .val (.long o5), .second] []))
      refine own_by (fun _ k => XS.goto X21.here hx rfl (pc0 := 84) (pc' := 97) rfl (hb hby at_84) (by decide) (by decide) k) ?_
      show own_Go p e below _ (T21.setTop (mkF m 97 #[.val (.long q0), .second, .val (.long q1), .second, .val (.int p2), .val (.long o2), .second, .val (.long o5), .second, .val (.int z14), .val (.ref b16), .val (.ref b22), .val (.long v33), .second, .val (.long o5), .second] []))
      exact J34 _ _ v33 o5 X21 rfl N21 (Or.inr (⟨v33, c31, hv33, rfl, rfl⟩))
  by_cases c7 : (p2 &&& (1 : Int32)) = (0 : Int32)
  · skip
    refine own_by (fun _ k => XS.ifYes X4.here hx rfl (pc0 := 30) (pc' := 37) rfl (hb hby at_30) rfl ((if0 _ _).trans (teq c7).1) (by decide) (by decide) k) ?_
    show own_Go p e below _ (T4.setTop (mkF m 37 #[.val (.long q0), .second, .val (.long q1), .second, .val (.int p2), .val (.long o2), .second, .val (.long o5), .second, .unset, .unset, .unset, .unset, .unset, .unset, .unset] []))
    refine own_by (fun _ k => XS.iconst X4.here hx rfl (hb hby at_37) k) ?_
    show own_Go p e below _ (T4.setTop (mkF m 38 #[.val (.long q0), .second, .val (.long q1), .second, .val (.int p2), .val (.long o2), .second, .val (.long o5), .second, .unset, .unset, .unset, .unset, .unset, .unset, .unset] [(.int (0 : Int32))]))
    exact J8 _ _ (0 : Int32) X4 eq4 N4 (Or.inl ⟨c7, rfl⟩)
  · skip
    refine own_by (fun _ k => XS.ifNo X4.here hx rfl (hb hby at_30) rfl ((if0 _ _).trans (feq c7).1) k) ?_
    show own_Go p e below _ (T4.setTop (mkF m 33 #[.val (.long q0), .second, .val (.long q1), .second, .val (.int p2), .val (.long o2), .second, .val (.long o5), .second, .unset, .unset, .unset, .unset, .unset, .unset, .unset] []))
    refine own_by (fun _ k => XS.iconst X4.here hx rfl (hb hby at_33) k) ?_
    show own_Go p e below _ (T4.setTop (mkF m 34 #[.val (.long q0), .second, .val (.long q1), .second, .val (.int p2), .val (.long o2), .second, .val (.long o5), .second, .unset, .unset, .unset, .unset, .unset, .unset, .unset] [(.int (1 : Int32))]))
    refine own_by (fun _ k => XS.goto X4.here hx rfl (pc0 := 34) (pc' := 38) rfl (hb hby at_34) (by decide) (by decide) k) ?_
    show own_Go p e below _ (T4.setTop (mkF m 38 #[.val (.long q0), .second, .val (.long q1), .second, .val (.int p2), .val (.long o2), .second, .val (.long o5), .second, .unset, .unset, .unset, .unset, .unset, .unset, .unset] [(.int (1 : Int32))]))
    exact J8 _ _ (1 : Int32) X4 eq4 N4 (Or.inr (⟨c7, rfl⟩))
set_option maxRecDepth 65536 in
set_option maxHeartbeats 40000000 in
theorem comes_1 {Post : Tables → Env → Array Value → State → Outcome → State → Prop} (hpost : ∀ tb e args s v u, (limb_1_1.after args s (.returned v) u = true ∧ limb_1_2.after args s (.returned v) u = true ∧ True) → FrameEnd s (.returned v) u (Jvm.fieldLocs frame_1_writes args s ++ Jvm.arrayLocs frame_1_arrays args s ++ Jvm.staticLocs frame_1_statics s) 16 128 → Post tb e args s (.returned v) u) :
    ArmFor flags0 classFile x code maxLocals ret World_1 tables_1 room_1 Calls_1 rest_1 Pre_1 Post := by
  intro l hfl _ _ p e ha hc hk s m args below hf hA hF happ hP
  obtain ⟨hcalls, hrest, hpre⟩ := hP
  obtain ⟨-, -, -, hnamed, -, -, -, hat⟩ := (Spec.applies_iff hf).mp happ
  obtain ⟨hg, hn⟩ := and_e (Cond.before_iff.mp (show (Jvm.Cond.and given_1 narrow_1).before args s = true from hpre))
  obtain ⟨g0, r0⟩ := and_e hg
  obtain ⟨ga0, r1⟩ := and_e r0
  obtain ⟨ga1, r2⟩ := and_e r1
  obtain ⟨w0, w1, w2, rfl⟩ : ∃ w0 w1 w2 : Value, args = #[w0, w1, w2] := by
    have hs : args.size = 3 := by simpa [Cond.value, given_1] using g0
    obtain ⟨L⟩ := args
    match L, hs with
    | [w0, w1, w2], _ => exact ⟨w0, w1, w2, rfl⟩
  have hw := fun d (hd : d ∈ tables_1) => atoms_spec (ws := Jvm.Cond.code x code maxLocals ret :: tables_1) hat d (List.mem_cons_of_mem _ hd)
  have hfit : Fit s := fun {y c} hc i hi => by
    obtain ⟨ha, rfl⟩ := Array.getElem?_eq_some_iff.mp hc
    have q := List.all_eq_true.mp ((Array.all_eq_true_iff_forall_mem.mp hF) _ (Array.getElem_mem ha)) i (List.mem_range.mpr hi)
    simpa [Array.getElem?_eq_getElem hi] using q
  obtain ⟨i0, ei0⟩ := isL_v ga0
  obtain rfl : w0 = (.long i0) := Option.some.inj ei0
  obtain ⟨i1, ei1⟩ := isL_v ga1
  obtain rfl : w1 = (.long i1) := Option.some.inj ei1
  obtain ⟨i2, ei2⟩ := is_v r2
  obtain rfl : w2 = (.int i2) := Option.some.inj ei2
  obtain ⟨n, o, h1, h2, h3, _, L, rfl, ⟨rfl, N⟩, hq⟩ := rm0 l s _ hw tables_1 i0 i1 i2  s.heap s.heap.size (Nat.le_refl _)  p e ha hc hk s m _ below hf ((Spec.applies_iff_loose hf).mp happ).1 ⟨rfl, State.Warmed39.refl s, rfl⟩ trivial
  refine ⟨n, _, h1, h2, h3, hpost _ _ _ _ _ _ ⟨Cond.after_iff.mpr rfl, Cond.after_iff.mpr (eq_i res_at (Term.int_eval (1)) rfl), trivial⟩ ⟨hq.1, hq.2.1, (hq.2.2.sift fun y hy => Or.inr (N y hy)).mono (by decide) (by decide)⟩⟩
theorem main_1_1 : Claimed_1_1 := comes_1 fun _ _ _ _ _ _ h hF => ⟨h.1, hF⟩
theorem main_1_2 : Claimed_1_2 := comes_1 fun _ _ _ _ _ _ h hF => ⟨h.2.1, hF⟩
end Jvm.Pilot.@@N@@
namespace Jvm.Pilot.@@N@@
open Jvm Jvm.ClassFile Sem Op Lib Jvm.Free Jvm.Stand Jvm.Pilot.@@N@@.Jvm.D
/-! MADE BY PROGRAM (witnessworld.py) out of the Statement's table words and the real class files: 11 classes; the members and pool entries that the words name. The judged class is class 1, her method 1. -/
namespace start1
open Jvm.ClassFile
def u (s : String) : CpInfo := .utf8 (stringToUtf16 s)
/-- a pool by its gaps: so many unusable entries, then the entry; so many at the end -/
def gap : Nat → List CpInfo → List CpInfo
  | 0, r => r
  | n + 1, r => .unusable :: gap n r
def poolList (es : List (Nat × CpInfo)) (last : Nat) : List CpInfo := es.foldr (fun e r => gap e.1 (e.2 :: r)) (gap last [])
def pool (es : List (Nat × CpInfo)) (last : Nat) : Array CpInfo := ⟨poolList es last⟩
def fileOf (pool : Array CpInfo) (this : Nat) (attrs : Array Attribute := #[]) (ms : Array MethodInfo := #[]) (fl : Nat := 33) (sup : Nat := 0) (ifs : Array Nat := #[]) (fds : Array FieldInfo := #[]) : ClassFile where
  minorVersion := 0
  majorVersion := 65
  constantPool := pool
  accessFlags := fl
  thisClass := this
  superClass := sup
  interfaces := ifs
  fields := fds
  methods := ms
  attributes := attrs
def plain (name : String) (sup : Option ClassId) : Class where
  name := name
  kind := .ordinary
  loader := none
  accessFlags := 33
  super := sup
  interfaces := #[]
  cf := none
  fields := #[]
  methods := #[]
  instanceTypes := #[]
  staticTypes := #[]
  resolved := #[]
  callSites := []
  init := .initialized
  statics := none
  mirror := none

def pool0 : Array CpInfo := pool [(5, u "<init>"), (0, u "()V"), (1, .class_ 10), (1, u "java/lang/Object")] 113

def k0c0 : Code := { maxStack := 0, maxLocals := 1, code := object_method_1_code, exceptionTable := #[], attributes := #[] }
def k0m0 : Method := { name := "<init>", desc := "()V", sig := { parameters := [], returnType := none }, accessFlags := 1, code := some k0c0 }
/-- java/lang/Object -/
def k0 : Class := { plain "java/lang/Object" none with
  accessFlags := 33
  interfaces := #[]
  cf := some (fileOf pool0 8 #[] #[{ accessFlags := 1, nameIndex := 5, descriptorIndex := 6, attributes := #[] }] 33 0 #[] #[])
  fields := #[]
  methods := #[k0m0]
  instanceTypes := #[]
  staticTypes := #[]
  resolved := Array.replicate 124 none
  statics := none }

def pool1 : Array CpInfo := pool [(2, .class_ 4), (1, u "java/lang/Object"), (0, u "<init>"), (0, u "()V"), (2, .long 9223372036854775807), (1, .long 9223372036854775806), (1, .methodref 14 15), (0, .class_ 16), (0, .nameAndType 17 18), (0, u "java/lang/Math"), (0, u "min"), (0, u "(JJ)J"), (0, .class_ 20), (0, u "com/example/credence/credence/core/Evidence"), (0, .methodref 19 22), (0, .nameAndType 5 23), (0, u "(JJ)V"), (0, .methodref 19 25), (0, .nameAndType 26 27), (0, u "plus"), (0, u "(Z)Lcom/example/credence/credence/core/Evidence;"), (0, .methodref 19 29), (0, .nameAndType 30 31), (0, u "successes"), (0, u "()J"), (0, .methodref 19 33), (0, .nameAndType 34 31), (0, u "failures"), (0, .class_ 36), (0, u "com/example/credence/credence/core/EvidencePlusPinLaw"), (2, u "law"), (0, u "(JJI)Z")] 3

def k1m0 : Method := { name := "<init>", desc := "()V", sig := { parameters := [], returnType := none }, accessFlags := 2, code := none }
def k1c1 : Code := { maxStack := 6, maxLocals := 16, code := code, exceptionTable := #[], attributes := #[] }
def k1m1 : Method := { name := "law", desc := "(JJI)Z", sig := { parameters := [.long, .long, .int], returnType := some .boolean }, accessFlags := 9, code := some k1c1 }
/-- com/example/credence/credence/core/EvidencePlusPinLaw -/
def k1 : Class := { plain "com/example/credence/credence/core/EvidencePlusPinLaw" (some 0) with
  accessFlags := 49
  interfaces := #[]
  cf := some (fileOf pool1 35 #[] #[{ accessFlags := 2, nameIndex := 5, descriptorIndex := 6, attributes := #[] }, { accessFlags := 9, nameIndex := 39, descriptorIndex := 40, attributes := #[] }] 49 2 #[] #[])
  fields := #[]
  methods := #[k1m0, k1m1]
  instanceTypes := #[]
  staticTypes := #[]
  resolved := Array.replicate 44 none
  statics := none }

def pool2 : Array CpInfo := pool [(1, .class_ 2), (0, u "java/lang/Math"), (1, .class_ 6), (1, u "java/lang/Object"), (0, u "<init>"), (0, u "()V"), (89, .class_ 100), (1, u "java/lang/Math$RandomNumberGeneratorHolder"), (20, u "(JJ)J"), (50, u "negativeZeroFloatBits"), (0, u "J"), (2, u "negativeZeroDoubleBits"), (24, u "min"), (43, u "$assertionsDisabled"), (0, u "Z"), (91, u "twoToTheDoubleScaleDown"), (0, u "D"), (4, u "twoToTheDoubleScaleUp"), (9, u "E"), (3, u "PI"), (2, u "TAU"), (2, u "DEGREES_TO_RADIANS"), (0, u "RADIANS_TO_DEGREES")] 94

def k2m0 : Method := { name := "<init>", desc := "()V", sig := { parameters := [], returnType := none }, accessFlags := 2, code := none }
def k2c1 : Code := { maxStack := 4, maxLocals := 4, code := jdk_29_method_70_code, exceptionTable := #[], attributes := #[] }
def k2m1 : Method := { name := "min", desc := "(JJ)J", sig := { parameters := [.long, .long], returnType := some .long }, accessFlags := 9, code := some k2c1 }
/-- java/lang/Math -/
def k2 : Class := { plain "java/lang/Math" (some 0) with
  accessFlags := 49
  interfaces := #[]
  cf := some (fileOf pool2 1 #[.nestMembers #[98]] #[{ accessFlags := 2, nameIndex := 7, descriptorIndex := 8, attributes := #[] }, { accessFlags := 9, nameIndex := 201, descriptorIndex := 121, attributes := #[] }] 49 4 #[] #[{ accessFlags := 25, nameIndex := 354, descriptorIndex := 339, attributes := #[] }, { accessFlags := 25, nameIndex := 358, descriptorIndex := 339, attributes := #[] }, { accessFlags := 25, nameIndex := 361, descriptorIndex := 339, attributes := #[] }, { accessFlags := 26, nameIndex := 364, descriptorIndex := 339, attributes := #[] }, { accessFlags := 26, nameIndex := 365, descriptorIndex := 339, attributes := #[] }, { accessFlags := 26, nameIndex := 172, descriptorIndex := 173, attributes := #[] }, { accessFlags := 26, nameIndex := 176, descriptorIndex := 173, attributes := #[] }, { accessFlags := 8, nameIndex := 344, descriptorIndex := 339, attributes := #[] }, { accessFlags := 8, nameIndex := 338, descriptorIndex := 339, attributes := #[] }, { accessFlags := 4120, nameIndex := 245, descriptorIndex := 246, attributes := #[] }])
  fields := #[{ name := "E", type := .double, accessFlags := 25, slot := 0, constantValue := 0 }, { name := "PI", type := .double, accessFlags := 25, slot := 1, constantValue := 0 }, { name := "TAU", type := .double, accessFlags := 25, slot := 2, constantValue := 0 }, { name := "DEGREES_TO_RADIANS", type := .double, accessFlags := 26, slot := 3, constantValue := 0 }, { name := "RADIANS_TO_DEGREES", type := .double, accessFlags := 26, slot := 4, constantValue := 0 }, { name := "negativeZeroFloatBits", type := .long, accessFlags := 26, slot := 5, constantValue := 0 }, { name := "negativeZeroDoubleBits", type := .long, accessFlags := 26, slot := 6, constantValue := 0 }, { name := "twoToTheDoubleScaleUp", type := .double, accessFlags := 8, slot := 7, constantValue := 0 }, { name := "twoToTheDoubleScaleDown", type := .double, accessFlags := 8, slot := 8, constantValue := 0 }, { name := "$assertionsDisabled", type := .boolean, accessFlags := 4120, slot := 9, constantValue := 0 }]
  methods := #[k2m0, k2m1]
  instanceTypes := #[]
  staticTypes := #[.double, .double, .double, .double, .double, .long, .long, .double, .double, .boolean]
  resolved := Array.replicate 460 none
  statics := none }

def pool3 : Array CpInfo := pool [(1, .methodref 2 3), (0, .class_ 4), (0, .nameAndType 5 6), (0, u "java/lang/Object"), (0, u "<init>"), (0, u "()V"), (0, .class_ 8), (0, u "java/lang/Record")] 13

def k3c0 : Code := { maxStack := 1, maxLocals := 1, code := jdk_30_method_1_code, exceptionTable := #[], attributes := #[] }
def k3m0 : Method := { name := "<init>", desc := "()V", sig := { parameters := [], returnType := none }, accessFlags := 4, code := some k3c0 }
/-- java/lang/Record -/
def k3 : Class := { plain "java/lang/Record" (some 0) with
  accessFlags := 1057
  interfaces := #[]
  cf := some (fileOf pool3 7 #[] #[{ accessFlags := 4, nameIndex := 5, descriptorIndex := 6, attributes := #[] }] 1057 2 #[] #[])
  fields := #[]
  methods := #[k3m0]
  instanceTypes := #[]
  staticTypes := #[]
  resolved := Array.replicate 22 none
  statics := none }

def pool4 : Array CpInfo := pool [(1, .methodref 2 3), (0, .class_ 4), (0, .nameAndType 5 6), (0, u "java/lang/Record"), (0, u "<init>"), (0, u "()V"), (9, .fieldref 17 18), (0, .class_ 19), (0, .nameAndType 20 21), (0, u "com/example/credence/credence/core/Evidence"), (0, u "successes"), (0, u "J"), (0, .fieldref 17 23), (0, .nameAndType 24 21), (0, u "failures"), (0, .methodref 17 26), (0, .nameAndType 5 27), (0, u "(JJ)V"), (14, u "NONE"), (0, u "Lcom/example/credence/credence/core/Evidence;"), (4, u "plus"), (0, u "(Z)Lcom/example/credence/credence/core/Evidence;"), (3, u "()J")] 30

def k4c0 : Code := { maxStack := 6, maxLocals := 5, code := prog_2_method_1_code, exceptionTable := #[], attributes := #[] }
def k4m0 : Method := { name := "<init>", desc := "(JJ)V", sig := { parameters := [.long, .long], returnType := none }, accessFlags := 1, code := some k4c0 }
def k4c1 : Code := { maxStack := 8, maxLocals := 2, code := prog_2_method_2_code, exceptionTable := #[], attributes := #[] }
def k4m1 : Method := { name := "plus", desc := "(Z)Lcom/example/credence/credence/core/Evidence;", sig := { parameters := [.boolean], returnType := some (.object "com/example/credence/credence/core/Evidence") }, accessFlags := 1, code := some k4c1 }
def k4c2 : Code := { maxStack := 2, maxLocals := 1, code := prog_2_method_6_code, exceptionTable := #[], attributes := #[] }
def k4m2 : Method := { name := "successes", desc := "()J", sig := { parameters := [], returnType := some .long }, accessFlags := 1, code := some k4c2 }
def k4c3 : Code := { maxStack := 2, maxLocals := 1, code := prog_2_method_7_code, exceptionTable := #[], attributes := #[] }
def k4m3 : Method := { name := "failures", desc := "()J", sig := { parameters := [], returnType := some .long }, accessFlags := 1, code := some k4c3 }
/-- com/example/credence/credence/core/Evidence -/
def k4 : Class := { plain "com/example/credence/credence/core/Evidence" (some 3) with
  accessFlags := 49
  interfaces := #[]
  cf := some (fileOf pool4 17 #[] #[{ accessFlags := 1, nameIndex := 5, descriptorIndex := 27, attributes := #[] }, { accessFlags := 1, nameIndex := 48, descriptorIndex := 49, attributes := #[] }, { accessFlags := 1, nameIndex := 20, descriptorIndex := 53, attributes := #[] }, { accessFlags := 1, nameIndex := 24, descriptorIndex := 53, attributes := #[] }] 49 2 #[] #[{ accessFlags := 18, nameIndex := 20, descriptorIndex := 21, attributes := #[] }, { accessFlags := 18, nameIndex := 24, descriptorIndex := 21, attributes := #[] }, { accessFlags := 25, nameIndex := 42, descriptorIndex := 43, attributes := #[] }])
  fields := #[{ name := "successes", type := .long, accessFlags := 18, slot := 0, constantValue := 0 }, { name := "failures", type := .long, accessFlags := 18, slot := 1, constantValue := 0 }, { name := "NONE", type := (.object "com/example/credence/credence/core/Evidence"), accessFlags := 25, slot := 0, constantValue := 0 }]
  methods := #[k4m0, k4m1, k4m2, k4m3]
  instanceTypes := #[.long, .long]
  staticTypes := #[(.object "com/example/credence/credence/core/Evidence")]
  resolved := Array.replicate 84 none
  statics := none }

def pool5 : Array CpInfo := pool [(1, u "java/lang/Cloneable"), (0, .class_ 1), (0, u "java/lang/Object"), (0, .class_ 3)] 3

/-- java/lang/Cloneable -/
def k5 : Class := { plain "java/lang/Cloneable" (some 0) with
  accessFlags := 1537
  interfaces := #[]
  cf := some (fileOf pool5 2 #[] #[] 1537 4 #[] #[])
  fields := #[]
  methods := #[]
  instanceTypes := #[]
  staticTypes := #[]
  resolved := Array.replicate 8 none
  statics := none }

def pool6 : Array CpInfo := pool [(1, u "java/io/Serializable"), (0, .class_ 1), (0, u "java/lang/Object"), (0, .class_ 3)] 3

/-- java/io/Serializable -/
def k6 : Class := { plain "java/io/Serializable" (some 0) with
  accessFlags := 1537
  interfaces := #[]
  cf := some (fileOf pool6 2 #[] #[] 1537 4 #[] #[])
  fields := #[]
  methods := #[]
  instanceTypes := #[]
  staticTypes := #[]
  resolved := Array.replicate 8 none
  statics := none }

/-- the primitive byte -/
def k7 : Class := { plain "byte" none with kind := .primitive 'B', accessFlags := 0x411 }
/-- [B -/
def k8 : Class := { plain "[B" (some 0) with kind := .array 7 .byte, interfaces := #[5, 6], accessFlags := 1041 }

/-- the primitive int -/
def k9 : Class := { plain "int" none with kind := .primitive 'I', accessFlags := 0x411 }
/-- [I -/
def k10 : Class := { plain "[I" (some 0) with kind := .array 9 .int, interfaces := #[5, 6], accessFlags := 1041 }

def heap : Heap := #[]
def classes : Array Class := #[k0, k1, k2, k3, k4, k5, k6, k7, k8, k9, k10]
def interned : List (Array UInt16 × Addr) := []
def slotsUsed : Nat := 0
def theMethod : MethodId := ⟨1, 1⟩
def args0 : Array Value := #[.long 7, .long 7, .int 3]
def aboutOver (below : List Frame) : State where
  vm := { classes := classes, interned := interned.toArray }
  heap := heap
  slotsUsed := slotsUsed
  threads := #[{ frames := .invoking theMethod args0 :: below }]
def below0 : List Frame := [.native { method := ⟨0, 0⟩, args := #[] }]
def about1 : State := aboutOver below0
def p0 : Program := .bare "" "" ""
def e0 : Env := launch0.env 0 0 0
theorem w_frames : about1.frames = Frame.invoking theMethod args0 :: below0 := rfl
set_option maxRecDepth 65536 in
theorem w_args : argsFit about1.vm theMethod args0 = true := by decide +kernel
set_option maxRecDepth 65536 in
theorem w_heap : heapFits about1 = true := by decide +kernel
set_option maxRecDepth 65536 in
theorem w_runnable : about1.curStatus? = some .runnable := by decide +kernel
set_option maxRecDepth 65536 in
theorem w_alone : about1.alone = true := by decide +kernel
set_option maxRecDepth 65536 in
theorem w_named : about1.methodNamed? x = some theMethod := by decide +kernel
set_option maxRecDepth 65536 in
theorem w_hears : about1.hears theMethod below0 = true := by decide +kernel
set_option maxRecDepth 65536 in
theorem w_ripe : about1.ripe theMethod args0 below0 = true := by decide +kernel
theorem w_running : about1.status = .running := rfl
set_option maxRecDepth 65536 in
theorem w_room : about1.hasRoom e0.platform room_1 = true :=
  launch0.hasRoom_least _ room_1 (by decide +kernel) (by decide +kernel) (by decide +kernel) (by decide +kernel) (by decide +kernel) (by decide +kernel)
theorem allAtoms_all (ts : List Jvm.Cond) (a : Array Jvm.Value) (st : Jvm.State) : (allAtoms ts).before a st = ts.all (fun c => c.before a st) := by
  induction ts with
  | nil => rfl
  | cons c t ih =>
    show (Jvm.Cond.and c (allAtoms t)).before a st = _
    rw [Jvm.Cond.before_and, ih, List.all_cons]
def words1 : List Jvm.Cond := Jvm.Cond.code x code maxLocals ret :: tables_1
/-- a 'code' word, met by the world's own term for the bytes: nothing is compared byte by byte -/
theorem code_word {y : MethodName} {bytes : ByteArray} {mx : Nat} {rt : Option FieldType} {a : Array Value} {s : State} {m : MethodId} {meth : Method} {c : Code} (h1 : s.methodNamed? y = some m) (h2 : s.vm.method? m = some meth) (h3 : meth.code = some c) (h4 : c.code = bytes)
    (h5 : (c.maxLocals == mx && c.exceptionTable.isEmpty && decide (c.maxStack ≤ mostOperands) && decide (meth.sig.returnType = rt) && !meth.locks && decide (parseMethodDescriptor y.desc = some meth.sig)) = true) : (Jvm.Cond.code y bytes mx rt).before a s = true := by
  simp only [Bool.and_eq_true, beq_iff_eq, Bool.not_eq_true', decide_eq_true_eq] at h5
  obtain ⟨⟨⟨⟨⟨g1, g2⟩, g3⟩, g4⟩, g5⟩, g6⟩ := h5
  simp [Cond.before, Cond.holds, Cond.value, h1, h2, h3, h4, g1, g2, g3, g4, g5, g6]
def isCode : Jvm.Cond → Bool
  | .code _ _ _ _ => true
  | _ => false
theorem all_split {L : List Jvm.Cond} {P : Jvm.Cond → Bool} (h1 : L.all (fun c => isCode c || P c) = true) (h2 : ∀ c ∈ L.filter isCode, P c = true) : L.all P = true := by
  refine List.all_eq_true.mpr fun c hc => ?_
  have h := List.all_eq_true.mp h1 c hc
  rcases Bool.eq_false_or_eq_true (isCode c) with hi | hi
  · exact h2 c (List.mem_filter.mpr ⟨hc, hi⟩)
  · simpa [hi] using h
set_option maxRecDepth 65536 in
theorem w_c0 : (Jvm.Cond.code x code maxLocals ret).before args0 about1 = true := code_word (m := ⟨1, 1⟩) (meth := k1m1) (c := k1c1) (by decide +kernel) rfl rfl rfl (by decide +kernel)
set_option maxRecDepth 65536 in
theorem w_c1 : (Jvm.Cond.code ({ cls := "java/lang/Math", name := "min", desc := "(JJ)J" } : Jvm.MethodName) jdk_29_method_70_code (4 : Nat) (Option.some Jvm.ClassFile.FieldType.long)).before args0 about1 = true := code_word (m := ⟨2, 1⟩) (meth := k2m1) (c := k2c1) (by decide +kernel) rfl rfl rfl (by decide +kernel)
set_option maxRecDepth 65536 in
theorem w_c2 : (Jvm.Cond.code ({ cls := "com/example/credence/credence/core/Evidence", name := "<init>", desc := "(JJ)V" } : Jvm.MethodName) prog_2_method_1_code (5 : Nat) (Option.none : Option Jvm.ClassFile.FieldType)).before args0 about1 = true := code_word (m := ⟨4, 0⟩) (meth := k4m0) (c := k4c0) (by decide +kernel) rfl rfl rfl (by decide +kernel)
set_option maxRecDepth 65536 in
theorem w_c3 : (Jvm.Cond.code ({ cls := "java/lang/Record", name := "<init>", desc := "()V" } : Jvm.MethodName) jdk_30_method_1_code (1 : Nat) (Option.none : Option Jvm.ClassFile.FieldType)).before args0 about1 = true := code_word (m := ⟨3, 0⟩) (meth := k3m0) (c := k3c0) (by decide +kernel) rfl rfl rfl (by decide +kernel)
set_option maxRecDepth 65536 in
theorem w_c4 : (Jvm.Cond.code ({ cls := "java/lang/Object", name := "<init>", desc := "()V" } : Jvm.MethodName) object_method_1_code (1 : Nat) (Option.none : Option Jvm.ClassFile.FieldType)).before args0 about1 = true := code_word (m := ⟨0, 0⟩) (meth := k0m0) (c := k0c0) (by decide +kernel) rfl rfl rfl (by decide +kernel)
set_option maxRecDepth 65536 in
theorem w_c5 : (Jvm.Cond.code ({ cls := "com/example/credence/credence/core/Evidence", name := "plus", desc := "(Z)Lcom/example/credence/credence/core/Evidence;" } : Jvm.MethodName) prog_2_method_2_code (2 : Nat) (Option.some (Jvm.ClassFile.FieldType.object "com/example/credence/credence/core/Evidence"))).before args0 about1 = true := code_word (m := ⟨4, 1⟩) (meth := k4m1) (c := k4c1) (by decide +kernel) rfl rfl rfl (by decide +kernel)
set_option maxRecDepth 65536 in
theorem w_c6 : (Jvm.Cond.code ({ cls := "com/example/credence/credence/core/Evidence", name := "successes", desc := "()J" } : Jvm.MethodName) prog_2_method_6_code (1 : Nat) (Option.some Jvm.ClassFile.FieldType.long)).before args0 about1 = true := code_word (m := ⟨4, 2⟩) (meth := k4m2) (c := k4c2) (by decide +kernel) rfl rfl rfl (by decide +kernel)
set_option maxRecDepth 65536 in
theorem w_c7 : (Jvm.Cond.code ({ cls := "com/example/credence/credence/core/Evidence", name := "failures", desc := "()J" } : Jvm.MethodName) prog_2_method_7_code (1 : Nat) (Option.some Jvm.ClassFile.FieldType.long)).before args0 about1 = true := code_word (m := ⟨4, 3⟩) (meth := k4m3) (c := k4c3) (by decide +kernel) rfl rfl rfl (by decide +kernel)
def codes1 : List Jvm.Cond := [Jvm.Cond.code x code maxLocals ret, Jvm.Cond.code ({ cls := "java/lang/Math", name := "min", desc := "(JJ)J" } : Jvm.MethodName) jdk_29_method_70_code (4 : Nat) (Option.some Jvm.ClassFile.FieldType.long), Jvm.Cond.code ({ cls := "com/example/credence/credence/core/Evidence", name := "<init>", desc := "(JJ)V" } : Jvm.MethodName) prog_2_method_1_code (5 : Nat) (Option.none : Option Jvm.ClassFile.FieldType), Jvm.Cond.code ({ cls := "java/lang/Record", name := "<init>", desc := "()V" } : Jvm.MethodName) jdk_30_method_1_code (1 : Nat) (Option.none : Option Jvm.ClassFile.FieldType), Jvm.Cond.code ({ cls := "java/lang/Object", name := "<init>", desc := "()V" } : Jvm.MethodName) object_method_1_code (1 : Nat) (Option.none : Option Jvm.ClassFile.FieldType), Jvm.Cond.code ({ cls := "com/example/credence/credence/core/Evidence", name := "plus", desc := "(Z)Lcom/example/credence/credence/core/Evidence;" } : Jvm.MethodName) prog_2_method_2_code (2 : Nat) (Option.some (Jvm.ClassFile.FieldType.object "com/example/credence/credence/core/Evidence")), Jvm.Cond.code ({ cls := "com/example/credence/credence/core/Evidence", name := "successes", desc := "()J" } : Jvm.MethodName) prog_2_method_6_code (1 : Nat) (Option.some Jvm.ClassFile.FieldType.long), Jvm.Cond.code ({ cls := "com/example/credence/credence/core/Evidence", name := "failures", desc := "()J" } : Jvm.MethodName) prog_2_method_7_code (1 : Nat) (Option.some Jvm.ClassFile.FieldType.long)]
set_option maxRecDepth 65536 in
theorem codes_eq : words1.filter isCode = codes1 := rfl
theorem w_codes : ∀ c ∈ words1.filter isCode, c.before args0 about1 = true := by
  rw [codes_eq]
  intro c hc
  simp only [codes1, List.mem_cons, List.not_mem_nil, or_false] at hc
  rcases hc with rfl | rfl | rfl | rfl | rfl | rfl | rfl | rfl
  · exact w_c0
  · exact w_c1
  · exact w_c2
  · exact w_c3
  · exact w_c4
  · exact w_c5
  · exact w_c6
  · exact w_c7
set_option maxRecDepth 65536 in
theorem w_t1 : (words1.take 24).all (fun c => isCode c || c.before args0 about1) = true := by decide +kernel
set_option maxRecDepth 65536 in
theorem w_t2 : (words1.drop 24).all (fun c => isCode c || c.before args0 about1) = true := by decide +kernel
theorem w_tables : (allAtoms (Jvm.Cond.code x code maxLocals ret :: tables_1)).before args0 about1 = true := by
  rw [allAtoms_all]
  show words1.all (fun c => c.before args0 about1) = true
  refine all_split ?_ w_codes
  rw [← List.take_append_drop 24 words1, List.all_append, w_t1, w_t2]
  rfl
set_option maxRecDepth 65536 in
theorem w_case : (Jvm.Cond.and given_1 narrow_1).before args0 about1 = true := by decide +kernel
theorem w_applies : (headSpec (Jvm.Cond.code x code maxLocals ret :: tables_1) room_1).applies x e0.platform about1 = true :=
  (Spec.applies_iff w_frames).mpr ⟨w_running, w_runnable, w_alone, w_named, w_hears, w_ripe, w_room, w_tables⟩
theorem atStart : AtStart classFile x code maxLocals ret World_1 tables_1 room_1 Calls_1 rest_1 Pre_1 launch0 p0 e0 about1 theMethod args0 below0 :=
  ⟨lists_1, trivial, launch0.admits_env _ _ _, launch0.least_env, fairChoices_fair.cas, fairChoices_fair.clock, w_frames, w_args, w_heap, w_applies, trivial, trivial, w_case⟩
end start1
theorem witness_1 : WitnessClaimed_1 := ⟨start1.p0, start1.e0, start1.about1, start1.theMethod, start1.args0, start1.below0, start1.atStart⟩
end Jvm.Pilot.@@N@@
