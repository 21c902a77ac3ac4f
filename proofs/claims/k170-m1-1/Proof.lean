import JvmDerived
import JvmDerived.Pilot.@@N@@Statement
import JvmDerived.Pilot.@@N@@Code
set_option linter.unusedVariables false
set_option linter.unusedSimpArgs false
namespace Jvm.Pilot.@@N@@
open Jvm Jvm.ClassFile Sem Op Lib Jvm.Free Jvm.Stand Jvm.LawKit Jvm.RoadKit Bundle Jvm.Pilot.@@N@@.Jvm.D
def own_Go (p : Program) (e : Env) (below : List Frame) (P : Outcome → State → Prop) (st : State) : Prop :=
  ∃ s₂ o, Steps p.tables e below st s₂ ∧ s₂.status = .running ∧ Ended s₂ below o ∧ P o s₂
def own_Fin (s : State) (C S : Nat) (Q : Option Value → Heap → List Loc → Prop) (o : Outcome) (U : State) : Prop := ∃ v L, o = .returned v ∧ Q v U.heap L ∧ FrameEnd s o U L C S
def own_upd {α : Type} (f : Nat → α) (j : Nat) (v : α) : Nat → α := fun i => if i = j then v else f i
def own_Arf (Z : State) (h : Heap) (a : Addr) (k : ClassId) (ty : FieldType) (n : Int32) (f : Nat → Value) : Prop := ∃ c : Cell, Arr Z h a c ty ∧ c.cls = k ∧ c.slots.size = n.toNatClampNeg ∧ ¬ n < 0 ∧ (∀ i, i < c.slots.size → c.slots[i]? = some (f i)) ∧ ∀ i, i < c.slots.size → fits ty (f i) = true
section OwnKit
variable {p : Program} {l : Launch} {e : Env} {R : Room} {s : State} {m : MethodId} {args : Array Value} {below : List Frame} {meth : Method} {c : Code} {T : State} {locs : List Loc} {cells slots C S : Nat} {P : Outcome → State → Prop} {Q : Option Value → Heap → List Loc → Prop} {Z : State} {h h' : Heap} {a b : Addr} {k : ClassId} {ty : FieldType} {n : Int32} {ws : List Addr}
theorem own_by {st st' : State} (f : ∀ t, Steps p.tables e below st' t → Steps p.tables e below st t) (g : own_Go p e below P st') : own_Go p e below P st := by
  obtain ⟨s₂, o, h1, h2⟩ := g
  exact ⟨s₂, o, f _ h1, h2⟩
theorem own_mono (X : Stand p l e R s m args below meth c T locs cells slots) {c' s' : Nat} (hc : cells ≤ c') (hs : slots ≤ s') : Stand p l e R s m args below meth c T locs c' s' := { X with same := X.same.mono hc hs }
theorem own_end (X : Stand p l e R s m args below meth c T locs cells slots) {v : Option Value} (hv : meth.sig.returnType = none → v = none) (hlk : meth.locks = false) (eT : T.heap = h) (hQ : Q v h locs) (hc : cells ≤ C) (hs : slots ≤ S)
    {g : JFrame} (st : ∀ fs, (∀ (f : JFrame) (acts : List Action), f.method = m → f.locked = none → f.entered = [] → (doReturn e (T.setTop f) acts v).1 = T.setFrames fs) → Steps p.tables e below (T.setTop g) (T.setFrames fs)) : own_Go p e below (own_Fin s C S Q) (T.setTop g) := by
  obtain ⟨fs, hr, hrun, hended, hW, hsame⟩ := X.leave (v := v) hv hlk
  refine ⟨_, _, st fs hr, hrun, hended, v, locs, rfl, ?_, ⟨_, rfl⟩, hW, hsame.mono hc hs⟩
  show Q v T.heap locs
  rw [eT]; exact hQ
theorem own_retN (X : Stand p l e R s m args below meth c T locs cells slots) (hx : p.tables.exec = Jvm.exec) {pc : Nat} {Ls : Array Slot} {z : Int32} {t : FieldType} {rest : List Value} (hret : meth.sig.returnType = some t) (ht : t = .boolean ∨ t = .byte ∨ t = .char ∨ t = .short) (hd : decode c.code pc = .ok (.ireturn, 1)) (hlk : meth.locks = false) (eT : T.heap = h) (hQ : Q (some (.int (nar t z))) h locs) (hc : cells ≤ C) (hs : slots ≤ S) : own_Go p e below (own_Fin s C S Q) (T.setTop (mkF m pc Ls (.int z :: rest))) :=
  own_end X (fun h => by rw [hret] at h; cases h) hlk eT hQ hc hs fun fs hr => retN X hx hret ht hd hr
theorem own_retI (X : Stand p l e R s m args below meth c T locs cells slots) (hx : p.tables.exec = Jvm.exec) {pc : Nat} {Ls : Array Slot} {z : Int32} {rest : List Value} (hret : meth.sig.returnType = some .int) (hd : decode c.code pc = .ok (.ireturn, 1)) (hlk : meth.locks = false) (eT : T.heap = h) (hQ : Q (some (.int z)) h locs) (hc : cells ≤ C) (hs : slots ≤ S) : own_Go p e below (own_Fin s C S Q) (T.setTop (mkF m pc Ls (.int z :: rest))) :=
  own_end X (fun h => by rw [hret] at h; cases h) hlk eT hQ hc hs fun fs hr => retOut X hx hret rfl (Or.inl ⟨rfl, Or.inl rfl, _, rfl⟩) hd hr
theorem own_retJ (X : Stand p l e R s m args below meth c T locs cells slots) (hx : p.tables.exec = Jvm.exec) {pc : Nat} {Ls : Array Slot} {z : Int64} {rest : List Value} (hret : meth.sig.returnType = some .long) (hd : decode c.code pc = .ok (.lreturn, 1)) (hlk : meth.locks = false) (eT : T.heap = h) (hQ : Q (some (.long z)) h locs) (hc : cells ≤ C) (hs : slots ≤ S) : own_Go p e below (own_Fin s C S Q) (T.setTop (mkF m pc Ls (.long z :: rest))) :=
  own_end X (fun h => by rw [hret] at h; cases h) hlk eT hQ hc hs fun fs hr => retOut X hx hret rfl (Or.inr (Or.inl ⟨rfl, rfl, _, rfl⟩)) hd hr
theorem own_retD (X : Stand p l e R s m args below meth c T locs cells slots) (hx : p.tables.exec = Jvm.exec) {pc : Nat} {Ls : Array Slot} {z : UInt64} {rest : List Value} (hret : meth.sig.returnType = some .double) (hd : decode c.code pc = .ok (.dreturn, 1)) (hlk : meth.locks = false) (eT : T.heap = h) (hQ : Q (some (.double z)) h locs) (hc : cells ≤ C) (hs : slots ≤ S) : own_Go p e below (own_Fin s C S Q) (T.setTop (mkF m pc Ls (.double z :: rest))) :=
  own_end X (fun h => by rw [hret] at h; cases h) hlk eT hQ hc hs fun fs hr => retOut X hx hret rfl (Or.inr (Or.inr (Or.inl ⟨rfl, rfl, _, rfl⟩))) hd hr
theorem own_retR (X : Stand p l e R s m args below meth c T locs cells slots) (hx : p.tables.exec = Jvm.exec) {pc : Nat} {Ls : Array Slot} {w : Value} {t : FieldType} {rest : List Value} (hret : meth.sig.returnType = some t) (ht : t.isReference = true) (hw : w.isRef = true) (hd : decode c.code pc = .ok (.areturn, 1)) (hlk : meth.locks = false) (eT : T.heap = h) (hQ : Q (some w) h locs) (hc : cells ≤ C) (hs : slots ≤ S) : own_Go p e below (own_Fin s C S Q) (T.setTop (mkF m pc Ls (w :: rest))) :=
  own_end X (fun h => by rw [hret] at h; cases h) hlk eT hQ hc hs fun fs hr => retOut X hx hret (by cases t <;> first | rfl | (cases w <;> first | rfl | cases hw) | (cases ht)) (Or.inr (Or.inr (Or.inr (Or.inr ⟨rfl, ht, hw⟩)))) hd hr
theorem own_ret0 (X : Stand p l e R s m args below meth c T locs cells slots) (hx : p.tables.exec = Jvm.exec) {pc : Nat} {Ls : Array Slot} (hret : meth.sig.returnType = none) (hd : decode c.code pc = .ok (.return_, 1)) (hlk : meth.locks = false) (eT : T.heap = h) (hQ : Q none h locs) (hc : cells ≤ C) (hs : slots ≤ S) : own_Go p e below (own_Fin s C S Q) (T.setTop (mkF m pc Ls [])) :=
  own_end X (fun _ => rfl) hlk eT hQ hc hs fun fs hr => X.returnOut hx hret hd hr
theorem own_one {z : Int32} (q : z = 1) : (some (.int (nar .boolean z)) : Option Value) = some (.int 1) := by subst q; rfl
theorem own_lrem {g : JFrame} {target : State} (hh : At T m c below) (hx : p.tables.exec = Jvm.exec) (hg : g.method = m) {x y : Int64} {rest : List Value} (hd : decode c.code g.pc = .ok (.lrem, 1)) (hs : g.stack = .long y :: .long x :: rest) (hy : y ≠ 0)
    (hr : Steps p.tables e below (T.setTop { g with pc := g.pc + 1, stack := .long (x % y) :: rest }) target) : Steps p.tables e below (T.setTop g) target :=
  XS.lrem hh hx hg hd hs hy (by rw [lrem_mod]; exact hr)
theorem own_Arf.lt {f : Nat → Value} (F : own_Arf Z h a k ty n f) : a < h.size := by obtain ⟨c, A, -⟩ := F; exact A.lt
theorem own_Arf.ext {f : Nat → Value} (F : own_Arf Z h a k ty n f) (E : Ext h h') : own_Arf Z h' a k ty n f := by obtain ⟨c, A, r⟩ := F; exact ⟨c, A.ext E, r⟩
theorem own_Arf.other {f : Nat → Value} {sl : Nat} {v : Value} (F : own_Arf Z h b k ty n f) (W : Wr h h' a sl v) (q : b ≠ a) : own_Arf Z h' b k ty n f := by obtain ⟨c, A, r⟩ := F; exact ⟨c, A.other W q, r⟩
theorem own_Arf.keep {f : Nat → Value} (F : own_Arf Z h a k ty n f) (K : Keep h h' ws) (q : a ∉ ws) : own_Arf Z h' a k ty n f := by obtain ⟨c, A, r⟩ := F; exact ⟨c, ⟨K.2.1 a c A.1 q, A.2⟩, r⟩
theorem own_arfNew (A : Arr Z h a (newA k ty n) ty) (q : ¬ n < 0) : own_Arf Z h a k ty n (fun _ => defaultValue ty) := ⟨_, A, rfl, sz_new _ _ _, q, fun i hi => by
  rw [sz_new] at hi; simp [newA, hi], fun i _ => by cases ty <;> rfl⟩
theorem own_arfSet {cl : Cell} {f : Nat → Value} {j : Nat} {v : Value} (A : Arr Z h a cl ty) (q1 : cl.cls = k) (S : cl.slots.size = n.toNatClampNeg) (q3 : ¬ n < 0) (H : ∀ i, i < cl.slots.size → cl.slots[i]? = some (f i)) (G : ∀ i, i < cl.slots.size → fits ty (f i) = true) (hv : fits ty v = true) (W : Wr h h' a j v) : own_Arf Z h' a k ty n (own_upd f j v) := by
  refine ⟨_, A.same W, q1, by rw [sz_set]; exact S, q3, fun i hi => ?_, fun i hi => ?_⟩
  · rw [sz_set] at hi
    by_cases u : j = i
    · subst u; simp [Cell.setSlot, hi, own_upd]
    · have := H i hi; simp only [Cell.setSlot] at this ⊢
      rw [Array.getElem?_setIfInBounds_ne u, this]; simp [own_upd, Ne.symm u]
  · rw [sz_set] at hi
    by_cases u : j = i
    · subst u; simpa [own_upd] using hv
    · have := G i hi; simpa [own_upd, Ne.symm u] using this
theorem own_arfSetI {cl : Cell} {f : Nat → Int32} {j : Nat} {v : Int32} (A : Arr Z h a cl ty) (q1 : cl.cls = k) (S : cl.slots.size = n.toNatClampNeg) (q3 : ¬ n < 0) (H : ∀ i, i < cl.slots.size → cl.slots[i]? = some (.int (f i))) (G : ∀ i, i < cl.slots.size → fits ty (.int (f i)) = true) (hv : fits ty (.int v) = true) (W : Wr h h' a j (.int v)) : own_Arf Z h' a k ty n (fun i => .int (own_upd f j v i)) := by
  have q := own_arfSet (f := fun i => .int (f i)) A q1 S q3 H G hv W
  have e : (own_upd (fun i => Value.int (f i)) j (.int v)) = (fun i => .int (own_upd f j v i)) := by funext i; simp only [own_upd]; split <;> rfl
  rw [← e]; exact q
theorem own_arfSetJ {cl : Cell} {f : Nat → Int64} {j : Nat} {v : Int64} (A : Arr Z h a cl ty) (q1 : cl.cls = k) (S : cl.slots.size = n.toNatClampNeg) (q3 : ¬ n < 0) (H : ∀ i, i < cl.slots.size → cl.slots[i]? = some (.long (f i))) (G : ∀ i, i < cl.slots.size → fits ty (.long (f i)) = true) (hv : fits ty (.long v) = true) (W : Wr h h' a j (.long v)) : own_Arf Z h' a k ty n (fun i => .long (own_upd f j v i)) := by
  have q := own_arfSet (f := fun i => .long (f i)) A q1 S q3 H G hv W
  have e : (own_upd (fun i => Value.long (f i)) j (.long v)) = (fun i => .long (own_upd f j v i)) := by funext i; simp only [own_upd]; split <;> rfl
  rw [← e]; exact q
theorem own_arfSetD {cl : Cell} {f : Nat → UInt64} {j : Nat} {v : UInt64} (A : Arr Z h a cl ty) (q1 : cl.cls = k) (S : cl.slots.size = n.toNatClampNeg) (q3 : ¬ n < 0) (H : ∀ i, i < cl.slots.size → cl.slots[i]? = some (.double (f i))) (G : ∀ i, i < cl.slots.size → fits ty (.double (f i)) = true) (hv : fits ty (.double v) = true) (W : Wr h h' a j (.double v)) : own_Arf Z h' a k ty n (fun i => .double (own_upd f j v i)) := by
  have q := own_arfSet (f := fun i => .double (f i)) A q1 S q3 H G hv W
  have e : (own_upd (fun i => Value.double (f i)) j (.double v)) = (fun i => .double (own_upd f j v i)) := by funext i; simp only [own_upd]; split <;> rfl
  rw [← e]; exact q
theorem own_neArr {A0 : Array Value} {C : String} {kk : Nat} {f : Nat → Value} (F : Exa Z h a C) (wi : (Cond.instantiable C kk).before A0 Z = true) (G : own_Arf Z h b k ty n f) : a ≠ b := by
  obtain ⟨c, A, -⟩ := G
  exact ne_arr F wi A
end OwnKit

theorem own_landNN (x : Int64) : ¬ ((x &&& (9223372036854775807 : Int64)) < (0 : Int64)) := by
  have h := (c_andSL x 9223372036854775807).2.2 (by decide)
  rw [Int64.lt_iff_toInt_lt]
  have e : (0 : Int64).toInt = 0 := rfl
  omega
theorem own_rem (x : Int32) (d : Int) (y : Int32) (hy : y.toInt = d) (h0 : 0 < d) : 0 ≤ ((x &&& 2147483647) % y).toInt ∧ ((x &&& 2147483647) % y).toInt < d := by
  have h1 := c_and x 2147483647 (by decide)
  have h2 := (c_irem (x &&& 2147483647) y d hy).1 h1.1
  rw [h2]; exact ⟨Int.emod_nonneg _ (by omega), Int.emod_lt_of_pos _ h0⟩
theorem own_drawn (x : Int64) : ¬ (((x &&& (9223372036854775807 : Int64)) % (9223372036854775806 : Int64)) + (1 : Int64)) < (1 : Int64) ∧ ¬ (((x &&& (9223372036854775807 : Int64)) % (9223372036854775806 : Int64)) + (1 : Int64)) = (9223372036854775807 : Int64) := by
  have h1 := (c_andSL x 9223372036854775807).2.2 (by decide)
  have h2 : ((x &&& (9223372036854775807 : Int64)) % (9223372036854775806 : Int64)).toInt = (x &&& (9223372036854775807 : Int64)).toInt % 9223372036854775806 := by
    rw [Int64.toInt_mod]; exact Int.tmod_eq_emod_of_nonneg h1
  generalize (x &&& (9223372036854775807 : Int64)) = w at *
  have h3 := c_ladd (w % 9223372036854775806) 1
  generalize (w % (9223372036854775806 : Int64)) = u at *
  have h4 := rng64 (u + 1)
  generalize u + 1 = t at *
  have e1 : (1 : Int64).toInt = 1 := rfl
  have e2 : (9223372036854775807 : Int64).toInt = 9223372036854775807 := by decide +kernel
  have e3 : (9223372036854775806 : Int64).toInt = 9223372036854775806 := by decide +kernel
  rw [Int64.lt_iff_toInt_lt, ← Int64.toInt_inj, e1, e2]
  omega
theorem d1_0 : decode jdk_29_method_65_code 0 = .ok (.iload_n 0, 1) := by decide +kernel
theorem d1_1 : decode jdk_29_method_65_code 1 = .ok (.iload_n 1, 1) := by decide +kernel
theorem d1_2 : decode jdk_29_method_65_code 2 = .ok (.if_icmp .lt 7, 3) := by decide +kernel
theorem d1_5 : decode jdk_29_method_65_code 5 = .ok (.iload_n 0, 1) := by decide +kernel
theorem d1_6 : decode jdk_29_method_65_code 6 = .ok (.goto 4, 3) := by decide +kernel
theorem d1_9 : decode jdk_29_method_65_code 9 = .ok (.iload_n 1, 1) := by decide +kernel
theorem d1_10 : decode jdk_29_method_65_code 10 = .ok (.ireturn, 1) := by decide +kernel
theorem ef_1 (m : MethodId) (p0 : Int32) (p1 : Int32) : entryFrame m #[(.int p0), (.int p1)] 2 = mkF m 0 #[.val (.int p0), .val (.int p1)] [] := by first | (simp [entryFrame, mkF, argsToLocals, Value.category]; done) | rfl
def Q1 (Z : State) (p0 : Int32) (p1 : Int32) (h0 : Heap) (n0 : Nat) (v : Option Value) (h : Heap) (L : List Loc) : Prop := ∃ (zz : Int32), v = some (.int zz) ∧ Fr n0 L ∧ h = h0 ∧ (((p0 < p1) ∧ zz = p1) ∨ ((¬ (p0 < p1)) ∧ zz = p0))
set_option maxRecDepth 65536 in
set_option maxHeartbeats 40000000 in
theorem rm1 (l : Launch) (Z : State) (A0 : Array Value) (hw : ∀ d ∈ tables_1, d.before A0 Z = true) (ws : List Jvm.Cond) (p0 : Int32) (p1 : Int32) (h0 : Heap) (n0 : Nat) (Z0 : n0 ≤ h0.size) :
    MetFree l (⟨"java/lang/Math", "max", "(II)I"⟩ : MethodName) (head1 (Jvm.Cond.code (⟨"java/lang/Math", "max", "(II)I"⟩ : MethodName) jdk_29_method_65_code 2 (some .int) :: ws) ({ frames := 0, cells := 0, slots := 0, locals := 0 } : Room)) (fun a U => a = #[(.int p0), (.int p1)] ∧ Z.Warmed39 U.vm ∧ U.heap = h0) (fun _ _ _ _ _ => True) (fun _ U o U' => ∃ v L, o = .returned v ∧ Q1 Z p0 p1 h0 n0 v U'.heap L ∧ FrameEnd U o U' L 0 0) := by
  refine MetFree.of_bodySF (Jvm.Free.JP.mathPlain rfl (by decide +kernel)) hisR ?_
  intro p e s m args below meth c s₁ Bd hml0 hP hK
  obtain ⟨rfl, hZ, hh⟩ := hP
  have hx := Bd.exec
  have hby := Bd.bytes
  have hml : c.maxLocals = 2 := hml0
  have hlk : meth.locks = false := Bd.notSynchronized
  have hown : s.vm.findClass "java/lang/Math" = some m.cls := findClass_of_methodNamed Bd.named
  have hnm := (name_of_methodNamed Bd.named Bd.method).1
  have X0 : Stand p l e ({ frames := 0, cells := 0, slots := 0, locals := 0 } : Room) s m #[(.int p0), (.int p1)] below meth c s₁ [] 0 0 := Stand.of_body Bd
  have e0 : s₁.heap = h0 := by rw [← hh, Bd.state]; rfl
  have N0 := Fr.nil n0
  show own_Go p e below (own_Fin s 0 0 (Q1 Z p0 p1 h0 n0)) _
  refine own_by (fun t k => castTop (ef_1 m p0 p1) k) ?_
  show own_Go p e below _ (s₁.setTop (mkF m 0 #[.val (.int p0), .val (.int p1)] []))
  refine own_by (fun _ k => XS.iloadN X0.here hx rfl (hb hby d1_0) rfl k) ?_
  show own_Go p e below _ (s₁.setTop (mkF m 1 #[.val (.int p0), .val (.int p1)] [(.int p0)]))
  refine own_by (fun _ k => XS.iloadN X0.here hx rfl (hb hby d1_1) rfl k) ?_
  show own_Go p e below _ (s₁.setTop (mkF m 2 #[.val (.int p0), .val (.int p1)] [(.int p1), (.int p0)]))
  by_cases c1 : p0 < p1
  · skip
    refine own_by (fun _ k => XS.icmpYes X0.here hx rfl (pc0 := 2) (pc' := 9) rfl (hb hby d1_2) rfl (tlt c1).1 (by decide) (by decide) k) ?_
    show own_Go p e below _ (s₁.setTop (mkF m 9 #[.val (.int p0), .val (.int p1)] []))
    refine own_by (fun _ k => XS.iloadN X0.here hx rfl (hb hby d1_9) rfl k) ?_
    show own_Go p e below _ (s₁.setTop (mkF m 10 #[.val (.int p0), .val (.int p1)] [(.int p1)]))
    exact own_retI X0 hx Bd.returns (hb hby d1_10) hlk e0 ⟨_, rfl, N0, rfl, (Or.inl ⟨c1, rfl⟩)⟩ (by decide) (by decide)
  · skip
    refine own_by (fun _ k => XS.icmpNo X0.here hx rfl (hb hby d1_2) rfl (flt c1).1 k) ?_
    show own_Go p e below _ (s₁.setTop (mkF m 5 #[.val (.int p0), .val (.int p1)] []))
    refine own_by (fun _ k => XS.iloadN X0.here hx rfl (hb hby d1_5) rfl k) ?_
    show own_Go p e below _ (s₁.setTop (mkF m 6 #[.val (.int p0), .val (.int p1)] [(.int p0)]))
    refine own_by (fun _ k => XS.goto X0.here hx rfl (pc0 := 6) (pc' := 10) rfl (hb hby d1_6) (by decide) (by decide) k) ?_
    show own_Go p e below _ (s₁.setTop (mkF m 10 #[.val (.int p0), .val (.int p1)] [(.int p0)]))
    exact own_retI X0 hx Bd.returns (hb hby d1_10) hlk e0 ⟨_, rfl, N0, rfl, (Or.inr (⟨c1, rfl⟩))⟩ (by decide) (by decide)
theorem d2_0 : decode jdk_29_method_66_code 0 = .ok (.lload_n 0, 1) := by decide +kernel
theorem d2_1 : decode jdk_29_method_66_code 1 = .ok (.lload_n 2, 1) := by decide +kernel
theorem d2_2 : decode jdk_29_method_66_code 2 = .ok (.lcmp, 1) := by decide +kernel
theorem d2_3 : decode jdk_29_method_66_code 3 = .ok (.ifCond .lt 7, 3) := by decide +kernel
theorem d2_6 : decode jdk_29_method_66_code 6 = .ok (.lload_n 0, 1) := by decide +kernel
theorem d2_7 : decode jdk_29_method_66_code 7 = .ok (.goto 4, 3) := by decide +kernel
theorem d2_10 : decode jdk_29_method_66_code 10 = .ok (.lload_n 2, 1) := by decide +kernel
theorem d2_11 : decode jdk_29_method_66_code 11 = .ok (.lreturn, 1) := by decide +kernel
theorem ef_2 (m : MethodId) (q0 : Int64) (q1 : Int64) : entryFrame m #[(.long q0), (.long q1)] 4 = mkF m 0 #[.val (.long q0), .second, .val (.long q1), .second] [] := by first | (simp [entryFrame, mkF, argsToLocals, Value.category]; done) | rfl
def Q2 (Z : State) (q0 : Int64) (q1 : Int64) (h0 : Heap) (n0 : Nat) (v : Option Value) (h : Heap) (L : List Loc) : Prop := ∃ (zz : Int64), v = some (.long zz) ∧ Fr n0 L ∧ h = h0 ∧ (((q0 < q1) ∧ zz = q1) ∨ ((¬ (q0 < q1)) ∧ zz = q0))
set_option maxRecDepth 65536 in
set_option maxHeartbeats 40000000 in
theorem rm2 (l : Launch) (Z : State) (A0 : Array Value) (hw : ∀ d ∈ tables_1, d.before A0 Z = true) (ws : List Jvm.Cond) (q0 : Int64) (q1 : Int64) (h0 : Heap) (n0 : Nat) (Z0 : n0 ≤ h0.size) :
    MetFree l (⟨"java/lang/Math", "max", "(JJ)J"⟩ : MethodName) (head1 (Jvm.Cond.code (⟨"java/lang/Math", "max", "(JJ)J"⟩ : MethodName) jdk_29_method_66_code 4 (some .long) :: ws) ({ frames := 0, cells := 0, slots := 0, locals := 0 } : Room)) (fun a U => a = #[(.long q0), (.long q1)] ∧ Z.Warmed39 U.vm ∧ U.heap = h0) (fun _ _ _ _ _ => True) (fun _ U o U' => ∃ v L, o = .returned v ∧ Q2 Z q0 q1 h0 n0 v U'.heap L ∧ FrameEnd U o U' L 0 0) := by
  refine MetFree.of_bodySF (Jvm.Free.JP.mathPlain rfl (by decide +kernel)) hisR ?_
  intro p e s m args below meth c s₁ Bd hml0 hP hK
  obtain ⟨rfl, hZ, hh⟩ := hP
  have hx := Bd.exec
  have hby := Bd.bytes
  have hml : c.maxLocals = 4 := hml0
  have hlk : meth.locks = false := Bd.notSynchronized
  have hown : s.vm.findClass "java/lang/Math" = some m.cls := findClass_of_methodNamed Bd.named
  have hnm := (name_of_methodNamed Bd.named Bd.method).1
  have X0 : Stand p l e ({ frames := 0, cells := 0, slots := 0, locals := 0 } : Room) s m #[(.long q0), (.long q1)] below meth c s₁ [] 0 0 := Stand.of_body Bd
  have e0 : s₁.heap = h0 := by rw [← hh, Bd.state]; rfl
  have N0 := Fr.nil n0
  show own_Go p e below (own_Fin s 0 0 (Q2 Z q0 q1 h0 n0)) _
  refine own_by (fun t k => castTop (ef_2 m q0 q1) k) ?_
  show own_Go p e below _ (s₁.setTop (mkF m 0 #[.val (.long q0), .second, .val (.long q1), .second] []))
  refine own_by (fun _ k => XS.lloadN X0.here hx rfl (hb hby d2_0) rfl k) ?_
  show own_Go p e below _ (s₁.setTop (mkF m 1 #[.val (.long q0), .second, .val (.long q1), .second] [(.long q0)]))
  refine own_by (fun _ k => XS.lloadN X0.here hx rfl (hb hby d2_1) rfl k) ?_
  show own_Go p e below _ (s₁.setTop (mkF m 2 #[.val (.long q0), .second, .val (.long q1), .second] [(.long q1), (.long q0)]))
  refine own_by (fun _ k => XS.lcmp X0.here hx rfl (hb hby d2_2) rfl k) ?_
  show own_Go p e below _ (s₁.setTop (mkF m 3 #[.val (.long q0), .second, .val (.long q1), .second] [(.int (lcmpW q0 q1))]))
  by_cases c1 : q0 < q1
  · skip
    refine own_by (fun _ k => XS.ifYes X0.here hx rfl (pc0 := 3) (pc' := 10) rfl (hb hby d2_3) rfl ((if0 _ _).trans (tlt ((lw_lt _ _).mpr c1)).1) (by decide) (by decide) k) ?_
    show own_Go p e below _ (s₁.setTop (mkF m 10 #[.val (.long q0), .second, .val (.long q1), .second] []))
    refine own_by (fun _ k => XS.lloadN X0.here hx rfl (hb hby d2_10) rfl k) ?_
    show own_Go p e below _ (s₁.setTop (mkF m 11 #[.val (.long q0), .second, .val (.long q1), .second] [(.long q1)]))
    exact own_retJ X0 hx Bd.returns (hb hby d2_11) hlk e0 ⟨_, rfl, N0, rfl, (Or.inl ⟨c1, rfl⟩)⟩ (by decide) (by decide)
  · skip
    refine own_by (fun _ k => XS.ifNo X0.here hx rfl (hb hby d2_3) rfl ((if0 _ _).trans (flt (fun q => c1 ((lw_lt _ _).mp q))).1) k) ?_
    show own_Go p e below _ (s₁.setTop (mkF m 6 #[.val (.long q0), .second, .val (.long q1), .second] []))
    refine own_by (fun _ k => XS.lloadN X0.here hx rfl (hb hby d2_6) rfl k) ?_
    show own_Go p e below _ (s₁.setTop (mkF m 7 #[.val (.long q0), .second, .val (.long q1), .second] [(.long q0)]))
    refine own_by (fun _ k => XS.goto X0.here hx rfl (pc0 := 7) (pc' := 11) rfl (hb hby d2_7) (by decide) (by decide) k) ?_
    show own_Go p e below _ (s₁.setTop (mkF m 11 #[.val (.long q0), .second, .val (.long q1), .second] [(.long q0)]))
    exact own_retJ X0 hx Bd.returns (hb hby d2_11) hlk e0 ⟨_, rfl, N0, rfl, (Or.inr (⟨c1, rfl⟩))⟩ (by decide) (by decide)
theorem d7_0 : decode method_2_code 0 = .ok (.lload_n 0, 1) := by decide +kernel
theorem d7_1 : decode method_2_code 1 = .ok (.ldc2_w 9, 3) := by decide +kernel
theorem d7_4 : decode method_2_code 4 = .ok (.land, 1) := by decide +kernel
theorem d7_5 : decode method_2_code 5 = .ok (.ldc2_w 11, 3) := by decide +kernel
theorem d7_8 : decode method_2_code 8 = .ok (.lrem, 1) := by decide +kernel
theorem d7_9 : decode method_2_code 9 = .ok (.lconst 1, 1) := by decide +kernel
theorem d7_10 : decode method_2_code 10 = .ok (.ladd, 1) := by decide +kernel
theorem d7_11 : decode method_2_code 11 = .ok (.lreturn, 1) := by decide +kernel
theorem pn_7 : plainName "com/example/keelstream/keelstream/storage/LogLimitsHasFlushLimitPinLaw" = true := by first | (simp [plainName, overriddenIn]; done) | decide +kernel
theorem ef_7 (m : MethodId) (q0 : Int64) : entryFrame m #[(.long q0)] 2 = mkF m 0 #[.val (.long q0), .second] [] := by first | (simp [entryFrame, mkF, argsToLocals, Value.category]; done) | rfl
def Q7 (Z : State) (q0 : Int64) (h0 : Heap) (n0 : Nat) (v : Option Value) (h : Heap) (L : List Loc) : Prop := v = some (.long (((q0 &&& (9223372036854775807 : Int64)) % (9223372036854775806 : Int64)) + (1 : Int64))) ∧ Fr n0 L ∧ h = h0
set_option maxRecDepth 65536 in
set_option maxHeartbeats 40000000 in
theorem rm7 (l : Launch) (Z : State) (A0 : Array Value) (hw : ∀ d ∈ tables_1, d.before A0 Z = true) (ws : List Jvm.Cond) (q0 : Int64) (h0 : Heap) (n0 : Nat) (Z0 : n0 ≤ h0.size) :
    MetFree l (⟨"com/example/keelstream/keelstream/storage/LogLimitsHasFlushLimitPinLaw", "drawnLimit", "(J)J"⟩ : MethodName) (head1 (Jvm.Cond.code (⟨"com/example/keelstream/keelstream/storage/LogLimitsHasFlushLimitPinLaw", "drawnLimit", "(J)J"⟩ : MethodName) method_2_code 2 (some .long) :: ws) ({ frames := 0, cells := 0, slots := 0, locals := 0 } : Room)) (fun a U => a = #[(.long q0)] ∧ Z.Warmed39 U.vm ∧ U.heap = h0) (fun _ _ _ _ _ => True) (fun _ U o U' => ∃ v L, o = .returned v ∧ Q7 Z q0 h0 n0 v U'.heap L ∧ FrameEnd U o U' L 0 0) := by
  refine MetFree.of_bodySF (plainFor_of_name pn_7) hisR ?_
  intro p e s m args below meth c s₁ Bd hml0 hP hK
  obtain ⟨rfl, hZ, hh⟩ := hP
  have hx := Bd.exec
  have hby := Bd.bytes
  have hml : c.maxLocals = 2 := hml0
  have hlk : meth.locks = false := Bd.notSynchronized
  have hown : s.vm.findClass "com/example/keelstream/keelstream/storage/LogLimitsHasFlushLimitPinLaw" = some m.cls := findClass_of_methodNamed Bd.named
  have hnm := (name_of_methodNamed Bd.named Bd.method).1
  have X0 : Stand p l e ({ frames := 0, cells := 0, slots := 0, locals := 0 } : Room) s m #[(.long q0)] below meth c s₁ [] 0 0 := Stand.of_body Bd
  have e0 : s₁.heap = h0 := by rw [← hh, Bd.state]; rfl
  have N0 := Fr.nil n0
  show own_Go p e below (own_Fin s 0 0 (Q7 Z q0 h0 n0)) _
  refine own_by (fun t k => castTop (ef_7 m q0) k) ?_
  show own_Go p e below _ (s₁.setTop (mkF m 0 #[.val (.long q0), .second] []))
  refine own_by (fun _ k => XS.lloadN X0.here hx rfl (hb hby d7_0) rfl k) ?_
  show own_Go p e below _ (s₁.setTop (mkF m 1 #[.val (.long q0), .second] [(.long q0)]))
  refine own_by (fun t k => X0.ldc2Long hx hown (mvT hZ (hw _ (List.mem_of_getElem? (i := 0) rfl))) (g := (mkF m 1 #[.val (.long q0), .second] [(.long q0)])) rfl (hb hby d7_1) _ k) ?_
  show own_Go p e below _ (s₁.setTop (mkF m 4 #[.val (.long q0), .second] [(.long (9223372036854775807 : Int64)), (.long q0)]))
  refine own_by (fun _ k => XS.land X0.here hx rfl (hb hby d7_4) rfl k) ?_
  show own_Go p e below _ (s₁.setTop (mkF m 5 #[.val (.long q0), .second] [(.long (q0 &&& (9223372036854775807 : Int64)))]))
  refine own_by (fun t k => X0.ldc2Long hx hown (mvT hZ (hw _ (List.mem_of_getElem? (i := 45) rfl))) (g := (mkF m 5 #[.val (.long q0), .second] [(.long (q0 &&& (9223372036854775807 : Int64)))])) rfl (hb hby d7_5) _ k) ?_
  show own_Go p e below _ (s₁.setTop (mkF m 8 #[.val (.long q0), .second] [(.long (9223372036854775806 : Int64)), (.long (q0 &&& (9223372036854775807 : Int64)))]))
  refine own_by (fun _ k => own_lrem X0.here hx rfl (hb hby d7_8) rfl (by decide) k) ?_
  show own_Go p e below _ (s₁.setTop (mkF m 9 #[.val (.long q0), .second] [(.long ((q0 &&& (9223372036854775807 : Int64)) % (9223372036854775806 : Int64)))]))
  refine own_by (fun _ k => XS.lconst X0.here hx rfl (hb hby d7_9) k) ?_
  show own_Go p e below _ (s₁.setTop (mkF m 10 #[.val (.long q0), .second] [(.long (1 : Int64)), (.long ((q0 &&& (9223372036854775807 : Int64)) % (9223372036854775806 : Int64)))]))
  refine own_by (fun _ k => XS.ladd X0.here hx rfl (hb hby d7_10) rfl k) ?_
  show own_Go p e below _ (s₁.setTop (mkF m 11 #[.val (.long q0), .second] [(.long (((q0 &&& (9223372036854775807 : Int64)) % (9223372036854775806 : Int64)) + (1 : Int64)))]))
  exact own_retJ X0 hx Bd.returns (hb hby d7_11) hlk e0 ⟨rfl, N0, rfl⟩ (by decide) (by decide)
theorem d6_0 : decode prog_75_method_2_code 0 = .ok (.aload_n 0, 1) := by decide +kernel
theorem d6_1 : decode prog_75_method_2_code 1 = .ok (.getfield 33, 3) := by decide +kernel
theorem d6_4 : decode prog_75_method_2_code 4 = .ok (.ldc2_w 39, 3) := by decide +kernel
theorem d6_7 : decode prog_75_method_2_code 7 = .ok (.lcmp, 1) := by decide +kernel
theorem d6_8 : decode prog_75_method_2_code 8 = .ok (.ifCond .ne 14, 3) := by decide +kernel
theorem d6_11 : decode prog_75_method_2_code 11 = .ok (.aload_n 0, 1) := by decide +kernel
theorem d6_12 : decode prog_75_method_2_code 12 = .ok (.getfield 36, 3) := by decide +kernel
theorem d6_15 : decode prog_75_method_2_code 15 = .ok (.ldc2_w 39, 3) := by decide +kernel
theorem d6_18 : decode prog_75_method_2_code 18 = .ok (.lcmp, 1) := by decide +kernel
theorem d6_19 : decode prog_75_method_2_code 19 = .ok (.ifCond .eq 7, 3) := by decide +kernel
theorem d6_22 : decode prog_75_method_2_code 22 = .ok (.iconst 1, 1) := by decide +kernel
theorem d6_23 : decode prog_75_method_2_code 23 = .ok (.goto 4, 3) := by decide +kernel
theorem d6_26 : decode prog_75_method_2_code 26 = .ok (.iconst 0, 1) := by decide +kernel
theorem d6_27 : decode prog_75_method_2_code 27 = .ok (.ireturn, 1) := by decide +kernel
theorem pn_6 : plainName "com/example/keelstream/keelstream/storage/LogLimits" = true := by first | (simp [plainName, overriddenIn]; done) | decide +kernel
theorem ef_6 (m : MethodId) (a0 : Addr) : entryFrame m #[(.ref a0)] 1 = mkF m 0 #[.val (.ref a0)] [] := by first | (simp [entryFrame, mkF, argsToLocals, Value.category]; done) | rfl
def Q6 (Z : State) (a0 : Addr) (f_a0_flushMessages : Int64) (f_a0_flushMs : Int64) (h0 : Heap) (n0 : Nat) (v : Option Value) (h : Heap) (L : List Loc) : Prop := ∃ (zz : Int32), v = some (.int zz) ∧ Fr n0 L ∧ h = h0 ∧ (((f_a0_flushMessages = (9223372036854775807 : Int64)) ∧ (f_a0_flushMs = (9223372036854775807 : Int64)) ∧ zz = (0 : Int32)) ∨ ((f_a0_flushMessages = (9223372036854775807 : Int64)) ∧ (¬ (f_a0_flushMs = (9223372036854775807 : Int64))) ∧ zz = (1 : Int32)) ∨ ((¬ (f_a0_flushMessages = (9223372036854775807 : Int64))) ∧ zz = (1 : Int32)))
set_option maxRecDepth 65536 in
set_option maxHeartbeats 40000000 in
theorem rm6 (l : Launch) (Z : State) (A0 : Array Value) (hw : ∀ d ∈ tables_1, d.before A0 Z = true) (ws : List Jvm.Cond) (a0 : Addr) (f_a0_flushMessages : Int64) (f_a0_flushMs : Int64) (h0 : Heap) (n0 : Nat) (Z0 : n0 ≤ h0.size) (P_F_a0_flushMessages : Fld Z h0 a0 "com/example/keelstream/keelstream/storage/LogLimits" "flushMessages" "J" (.long f_a0_flushMessages)) (P_F_a0_flushMs : Fld Z h0 a0 "com/example/keelstream/keelstream/storage/LogLimits" "flushMs" "J" (.long f_a0_flushMs)) :
    MetFree l (⟨"com/example/keelstream/keelstream/storage/LogLimits", "hasFlushLimit", "()Z"⟩ : MethodName) (head1 (Jvm.Cond.code (⟨"com/example/keelstream/keelstream/storage/LogLimits", "hasFlushLimit", "()Z"⟩ : MethodName) prog_75_method_2_code 1 (some .boolean) :: ws) ({ frames := 0, cells := 0, slots := 0, locals := 0 } : Room)) (fun a U => a = #[(.ref a0)] ∧ Z.Warmed39 U.vm ∧ U.heap = h0) (fun _ _ _ _ _ => True) (fun _ U o U' => ∃ v L, o = .returned v ∧ Q6 Z a0 f_a0_flushMessages f_a0_flushMs h0 n0 v U'.heap L ∧ FrameEnd U o U' L 0 0) := by
  refine MetFree.of_bodySF (plainFor_of_name pn_6) hisR ?_
  intro p e s m args below meth c s₁ Bd hml0 hP hK
  obtain ⟨rfl, hZ, hh⟩ := hP
  have hx := Bd.exec
  have hby := Bd.bytes
  have hml : c.maxLocals = 1 := hml0
  have hlk : meth.locks = false := Bd.notSynchronized
  have hown : s.vm.findClass "com/example/keelstream/keelstream/storage/LogLimits" = some m.cls := findClass_of_methodNamed Bd.named
  have hnm := (name_of_methodNamed Bd.named Bd.method).1
  have X0 : Stand p l e ({ frames := 0, cells := 0, slots := 0, locals := 0 } : Room) s m #[(.ref a0)] below meth c s₁ [] 0 0 := Stand.of_body Bd
  have e0 : s₁.heap = h0 := by rw [← hh, Bd.state]; rfl
  have N0 := Fr.nil n0
  show own_Go p e below (own_Fin s 0 0 (Q6 Z a0 f_a0_flushMessages f_a0_flushMs h0 n0)) _
  refine own_by (fun t k => castTop (ef_6 m a0) k) ?_
  show own_Go p e below _ (s₁.setTop (mkF m 0 #[.val (.ref a0)] []))
  refine own_by (fun _ k => XS.aloadN X0.here hx rfl (hb hby d6_0) rfl rfl k) ?_
  show own_Go p e below _ (s₁.setTop (mkF m 1 #[.val (.ref a0)] [(.ref a0)]))
  obtain ⟨T1, X1, e1, st1⟩ := getF X0 hx hZ hown (host := "") (Or.inl (hw _ (List.mem_of_getElem? (i := 31) rfl))) Via.refl e0 P_F_a0_flushMessages (g := (mkF m 1 #[.val (.ref a0)] [(.ref a0)])) rfl rfl (hb hby d6_1)
  refine own_by st1 ?_
  show own_Go p e below _ (T1.setTop (mkF m 4 #[.val (.ref a0)] [(.long f_a0_flushMessages)]))
  refine own_by (fun t k => X1.ldc2Long hx hown (mvT hZ (hw _ (List.mem_of_getElem? (i := 40) rfl))) (g := (mkF m 4 #[.val (.ref a0)] [(.long f_a0_flushMessages)])) rfl (hb hby d6_4) _ k) ?_
  show own_Go p e below _ (T1.setTop (mkF m 7 #[.val (.ref a0)] [(.long (9223372036854775807 : Int64)), (.long f_a0_flushMessages)]))
  refine own_by (fun _ k => XS.lcmp X1.here hx rfl (hb hby d6_7) rfl k) ?_
  show own_Go p e below _ (T1.setTop (mkF m 8 #[.val (.ref a0)] [(.int (lcmpW f_a0_flushMessages (9223372036854775807 : Int64)))]))
  by_cases c2 : f_a0_flushMessages = (9223372036854775807 : Int64)
  · skip
    refine own_by (fun _ k => XS.ifNo X1.here hx rfl (hb hby d6_8) rfl ((if0 _ _).trans (teq ((lw_eq _ _).mpr c2)).2) k) ?_
    show own_Go p e below _ (T1.setTop (mkF m 11 #[.val (.ref a0)] []))
    refine own_by (fun _ k => XS.aloadN X1.here hx rfl (hb hby d6_11) rfl rfl k) ?_
    show own_Go p e below _ (T1.setTop (mkF m 12 #[.val (.ref a0)] [(.ref a0)]))
    obtain ⟨T3, X3, e3, st3⟩ := getF X1 hx hZ hown (host := "") (Or.inl (hw _ (List.mem_of_getElem? (i := 33) rfl))) Via.refl e1 P_F_a0_flushMs (g := (mkF m 12 #[.val (.ref a0)] [(.ref a0)])) rfl rfl (hb hby d6_12)
    refine own_by st3 ?_
    show own_Go p e below _ (T3.setTop (mkF m 15 #[.val (.ref a0)] [(.long f_a0_flushMs)]))
    refine own_by (fun t k => X3.ldc2Long hx hown (mvT hZ (hw _ (List.mem_of_getElem? (i := 40) rfl))) (g := (mkF m 15 #[.val (.ref a0)] [(.long f_a0_flushMs)])) rfl (hb hby d6_15) _ k) ?_
    show own_Go p e below _ (T3.setTop (mkF m 18 #[.val (.ref a0)] [(.long (9223372036854775807 : Int64)), (.long f_a0_flushMs)]))
    refine own_by (fun _ k => XS.lcmp X3.here hx rfl (hb hby d6_18) rfl k) ?_
    show own_Go p e below _ (T3.setTop (mkF m 19 #[.val (.ref a0)] [(.int (lcmpW f_a0_flushMs (9223372036854775807 : Int64)))]))
    by_cases c4 : f_a0_flushMs = (9223372036854775807 : Int64)
    · skip
      refine own_by (fun _ k => XS.ifYes X3.here hx rfl (pc0 := 19) (pc' := 26) rfl (hb hby d6_19) rfl ((if0 _ _).trans (teq ((lw_eq _ _).mpr c4)).1) (by decide) (by decide) k) ?_
      show own_Go p e below _ (T3.setTop (mkF m 26 #[.val (.ref a0)] []))
      refine own_by (fun _ k => XS.iconst X3.here hx rfl (hb hby d6_26) k) ?_
      show own_Go p e below _ (T3.setTop (mkF m 27 #[.val (.ref a0)] [(.int (0 : Int32))]))
      exact own_retN X3 hx (t := .boolean) Bd.returns (by simp) (hb hby d6_27) hlk e3 ⟨_, rfl, N0, rfl, (Or.inl ⟨c2, c4, rfl⟩)⟩ (by decide) (by decide)
    · skip
      refine own_by (fun _ k => XS.ifNo X3.here hx rfl (hb hby d6_19) rfl ((if0 _ _).trans (feq (fun q => c4 ((lw_eq _ _).mp q))).1) k) ?_
      show own_Go p e below _ (T3.setTop (mkF m 22 #[.val (.ref a0)] []))
      refine own_by (fun _ k => XS.iconst X3.here hx rfl (hb hby d6_22) k) ?_
      show own_Go p e below _ (T3.setTop (mkF m 23 #[.val (.ref a0)] [(.int (1 : Int32))]))
      refine own_by (fun _ k => XS.goto X3.here hx rfl (pc0 := 23) (pc' := 27) rfl (hb hby d6_23) (by decide) (by decide) k) ?_
      show own_Go p e below _ (T3.setTop (mkF m 27 #[.val (.ref a0)] [(.int (1 : Int32))]))
      exact own_retN X3 hx (t := .boolean) Bd.returns (by simp) (hb hby d6_27) hlk e3 ⟨_, rfl, N0, rfl, (Or.inr (Or.inl ⟨c2, c4, rfl⟩))⟩ (by decide) (by decide)
  · skip
    refine own_by (fun _ k => XS.ifYes X1.here hx rfl (pc0 := 8) (pc' := 22) rfl (hb hby d6_8) rfl ((if0 _ _).trans (feq (fun q => c2 ((lw_eq _ _).mp q))).2) (by decide) (by decide) k) ?_
    show own_Go p e below _ (T1.setTop (mkF m 22 #[.val (.ref a0)] []))
    refine own_by (fun _ k => XS.iconst X1.here hx rfl (hb hby d6_22) k) ?_
    show own_Go p e below _ (T1.setTop (mkF m 23 #[.val (.ref a0)] [(.int (1 : Int32))]))
    refine own_by (fun _ k => XS.goto X1.here hx rfl (pc0 := 23) (pc' := 27) rfl (hb hby d6_23) (by decide) (by decide) k) ?_
    show own_Go p e below _ (T1.setTop (mkF m 27 #[.val (.ref a0)] [(.int (1 : Int32))]))
    exact own_retN X1 hx (t := .boolean) Bd.returns (by simp) (hb hby d6_27) hlk e1 ⟨_, rfl, N0, rfl, (Or.inr (Or.inr (⟨c2, rfl⟩)))⟩ (by decide) (by decide)
theorem d4_0 : decode jdk_30_method_1_code 0 = .ok (.aload_n 0, 1) := by decide +kernel
theorem d4_1 : decode jdk_30_method_1_code 1 = .ok (.invokespecial 1, 3) := by decide +kernel
theorem d4_4 : decode jdk_30_method_1_code 4 = .ok (.return_, 1) := by decide +kernel
theorem pn_4 : plainName "java/lang/Record" = true := by first | (simp [plainName, overriddenIn]; done) | decide +kernel
theorem ef_4 (m : MethodId) (a0 : Addr) : entryFrame m #[(.ref a0)] 1 = mkF m 0 #[.val (.ref a0)] [] := by first | (simp [entryFrame, mkF, argsToLocals, Value.category]; done) | rfl
def Q4 (Z : State) (a0 : Addr) (h0 : Heap) (n0 : Nat) (v : Option Value) (h : Heap) (L : List Loc) : Prop := v = none ∧ Fr n0 L ∧ h = h0
set_option maxRecDepth 65536 in
set_option maxHeartbeats 40000000 in
theorem rm4 (l : Launch) (Z : State) (A0 : Array Value) (hw : ∀ d ∈ tables_1, d.before A0 Z = true) (ws : List Jvm.Cond) (a0 : Addr) (h0 : Heap) (n0 : Nat) (Z0 : n0 ≤ h0.size) :
    MetFree l (⟨"java/lang/Record", "<init>", "()V"⟩ : MethodName) (head1 (Jvm.Cond.code (⟨"java/lang/Record", "<init>", "()V"⟩ : MethodName) jdk_30_method_1_code 1 none :: ws) ({ frames := 1, cells := 0, slots := 0, locals := 12 } : Room)) (fun a U => a = #[(.ref a0)] ∧ Z.Warmed39 U.vm ∧ U.heap = h0) (fun _ _ _ _ _ => True) (fun _ U o U' => ∃ v L, o = .returned v ∧ Q4 Z a0 h0 n0 v U'.heap L ∧ FrameEnd U o U' L 0 0) := by
  refine MetFree.of_bodySF (plainFor_of_name pn_4) hisR ?_
  intro p e s m args below meth c s₁ Bd hml0 hP hK
  obtain ⟨rfl, hZ, hh⟩ := hP
  have hx := Bd.exec
  have hby := Bd.bytes
  have hml : c.maxLocals = 1 := hml0
  have hlk : meth.locks = false := Bd.notSynchronized
  have hown : s.vm.findClass "java/lang/Record" = some m.cls := findClass_of_methodNamed Bd.named
  have hnm := (name_of_methodNamed Bd.named Bd.method).1
  have X0 : Stand p l e ({ frames := 1, cells := 0, slots := 0, locals := 12 } : Room) s m #[(.ref a0)] below meth c s₁ [] 0 0 := Stand.of_body Bd
  have e0 : s₁.heap = h0 := by rw [← hh, Bd.state]; rfl
  have N0 := Fr.nil n0
  show own_Go p e below (own_Fin s 0 0 (Q4 Z a0 h0 n0)) _
  refine own_by (fun t k => castTop (ef_4 m a0) k) ?_
  show own_Go p e below _ (s₁.setTop (mkF m 0 #[.val (.ref a0)] []))
  refine own_by (fun _ k => XS.aloadN X0.here hx rfl (hb hby d4_0) rfl rfl k) ?_
  show own_Go p e below _ (s₁.setTop (mkF m 1 #[.val (.ref a0)] [(.ref a0)]))
  obtain ⟨T1, X1, e1, st1⟩ := initO X0 hx hZ hown (hw _ (List.mem_of_getElem? (i := 21) rfl)) (hw _ (List.mem_of_getElem? (i := 22) rfl)) (hw _ (List.mem_of_getElem? (i := 23) rfl)) e0 (g := (mkF m 1 #[.val (.ref a0)] [(.ref a0)])) rfl (by rw [hml]; rfl) rfl (hb hby d4_1) (by decide) (W := 0) (by show 2 * 0 + _ ≤ _; exact Nat.le_of_eq rfl) (by decide)
  refine own_by st1 ?_
  show own_Go p e below _ (T1.setTop (mkF m 4 #[.val (.ref a0)] []))
  exact own_ret0 X1 hx Bd.returns (hb hby d4_4) hlk e1 ⟨rfl, N0, rfl⟩ (by decide) (by decide)
theorem pd_16 : parseMethodDescriptor "()V" = some ⟨[], none⟩ := by decide +kernel
theorem d3_0 : decode prog_75_method_1_code 0 = .ok (.aload_n 0, 1) := by decide +kernel
theorem d3_1 : decode prog_75_method_1_code 1 = .ok (.invokespecial 3, 3) := by decide +kernel
theorem d3_4 : decode prog_75_method_1_code 4 = .ok (.iload_n 1, 1) := by decide +kernel
theorem d3_5 : decode prog_75_method_1_code 5 = .ok (.iconst 1, 1) := by decide +kernel
theorem d3_6 : decode prog_75_method_1_code 6 = .ok (.if_icmp .lt 34, 3) := by decide +kernel
theorem d3_9 : decode prog_75_method_1_code 9 = .ok (.lload_n 2, 1) := by decide +kernel
theorem d3_10 : decode prog_75_method_1_code 10 = .ok (.ldc2_w 11, 3) := by decide +kernel
theorem d3_13 : decode prog_75_method_1_code 13 = .ok (.lcmp, 1) := by decide +kernel
theorem d3_14 : decode prog_75_method_1_code 14 = .ok (.ifCond .lt 26, 3) := by decide +kernel
theorem d3_17 : decode prog_75_method_1_code 17 = .ok (.lload 4, 2) := by decide +kernel
theorem d3_19 : decode prog_75_method_1_code 19 = .ok (.ldc2_w 11, 3) := by decide +kernel
theorem d3_22 : decode prog_75_method_1_code 22 = .ok (.lcmp, 1) := by decide +kernel
theorem d3_23 : decode prog_75_method_1_code 23 = .ok (.ifCond .lt 17, 3) := by decide +kernel
theorem d3_26 : decode prog_75_method_1_code 26 = .ok (.lload 6, 2) := by decide +kernel
theorem d3_28 : decode prog_75_method_1_code 28 = .ok (.lconst 1, 1) := by decide +kernel
theorem d3_29 : decode prog_75_method_1_code 29 = .ok (.lcmp, 1) := by decide +kernel
theorem d3_30 : decode prog_75_method_1_code 30 = .ok (.ifCond .lt 10, 3) := by decide +kernel
theorem d3_33 : decode prog_75_method_1_code 33 = .ok (.lload 8, 2) := by decide +kernel
theorem d3_35 : decode prog_75_method_1_code 35 = .ok (.lconst 1, 1) := by decide +kernel
theorem d3_36 : decode prog_75_method_1_code 36 = .ok (.lcmp, 1) := by decide +kernel
theorem d3_37 : decode prog_75_method_1_code 37 = .ok (.ifCond .ge 24, 3) := by decide +kernel
theorem d3_61 : decode prog_75_method_1_code 61 = .ok (.aload_n 0, 1) := by decide +kernel
theorem d3_62 : decode prog_75_method_1_code 62 = .ok (.iload_n 1, 1) := by decide +kernel
theorem d3_63 : decode prog_75_method_1_code 63 = .ok (.putfield 22, 3) := by decide +kernel
theorem d3_66 : decode prog_75_method_1_code 66 = .ok (.aload_n 0, 1) := by decide +kernel
theorem d3_67 : decode prog_75_method_1_code 67 = .ok (.lload_n 2, 1) := by decide +kernel
theorem d3_68 : decode prog_75_method_1_code 68 = .ok (.putfield 26, 3) := by decide +kernel
theorem d3_71 : decode prog_75_method_1_code 71 = .ok (.aload_n 0, 1) := by decide +kernel
theorem d3_72 : decode prog_75_method_1_code 72 = .ok (.lload 4, 2) := by decide +kernel
theorem d3_74 : decode prog_75_method_1_code 74 = .ok (.putfield 30, 3) := by decide +kernel
theorem d3_77 : decode prog_75_method_1_code 77 = .ok (.aload_n 0, 1) := by decide +kernel
theorem d3_78 : decode prog_75_method_1_code 78 = .ok (.lload 6, 2) := by decide +kernel
theorem d3_80 : decode prog_75_method_1_code 80 = .ok (.putfield 33, 3) := by decide +kernel
theorem d3_83 : decode prog_75_method_1_code 83 = .ok (.aload_n 0, 1) := by decide +kernel
theorem d3_84 : decode prog_75_method_1_code 84 = .ok (.lload 8, 2) := by decide +kernel
theorem d3_86 : decode prog_75_method_1_code 86 = .ok (.putfield 36, 3) := by decide +kernel
theorem d3_89 : decode prog_75_method_1_code 89 = .ok (.return_, 1) := by decide +kernel
theorem pn_3 : plainName "com/example/keelstream/keelstream/storage/LogLimits" = true := by first | (simp [plainName, overriddenIn]; done) | decide +kernel
theorem ef_3 (m : MethodId) (a0 : Addr) (p1 : Int32) (q2 : Int64) (q3 : Int64) (q4 : Int64) (q5 : Int64) : entryFrame m #[(.ref a0), (.int p1), (.long q2), (.long q3), (.long q4), (.long q5)] 10 = mkF m 0 #[.val (.ref a0), .val (.int p1), .val (.long q2), .second, .val (.long q3), .second, .val (.long q4), .second, .val (.long q5), .second] [] := by first | (simp [entryFrame, mkF, argsToLocals, Value.category]; done) | rfl
def Q3 (Z : State) (a0 : Addr) (p1 : Int32) (q2 : Int64) (q3 : Int64) (q4 : Int64) (q5 : Int64) (f_a0_segmentBytes : Int32) (f_a0_retentionBytes : Int64) (f_a0_retentionMs : Int64) (f_a0_flushMessages : Int64) (f_a0_flushMs : Int64) (h0 : Heap) (n0 : Nat) (v : Option Value) (h : Heap) (L : List Loc) : Prop := v = none ∧ Fr n0 L ∧ Keep h0 h [a0] ∧ Exa Z h a0 "com/example/keelstream/keelstream/storage/LogLimits" ∧ Fld Z h a0 "com/example/keelstream/keelstream/storage/LogLimits" "segmentBytes" "I" (.int p1) ∧ Fld Z h a0 "com/example/keelstream/keelstream/storage/LogLimits" "retentionBytes" "J" (.long q2) ∧ Fld Z h a0 "com/example/keelstream/keelstream/storage/LogLimits" "retentionMs" "J" (.long q3) ∧ Fld Z h a0 "com/example/keelstream/keelstream/storage/LogLimits" "flushMessages" "J" (.long q4) ∧ Fld Z h a0 "com/example/keelstream/keelstream/storage/LogLimits" "flushMs" "J" (.long q5)
set_option maxRecDepth 65536 in
set_option maxHeartbeats 40000000 in
theorem rm3 (l : Launch) (Z : State) (A0 : Array Value) (hw : ∀ d ∈ tables_1, d.before A0 Z = true) (ws : List Jvm.Cond) (a0 : Addr) (p1 : Int32) (q2 : Int64) (q3 : Int64) (q4 : Int64) (q5 : Int64) (f_a0_segmentBytes : Int32) (f_a0_retentionBytes : Int64) (f_a0_retentionMs : Int64) (f_a0_flushMessages : Int64) (f_a0_flushMs : Int64) (h0 : Heap) (n0 : Nat) (Z0 : n0 ≤ h0.size) (hc6 : ¬ (p1 < (1 : Int32))) (hc14 : ¬ (q2 < (-1 : Int64))) (hc23 : ¬ (q3 < (-1 : Int64))) (hc30 : ¬ (q4 < (1 : Int64))) (hc37 : ¬ (q5 < (1 : Int64))) (P_E_a0 : Exa Z h0 a0 "com/example/keelstream/keelstream/storage/LogLimits") (P_F_a0_segmentBytes : Fld Z h0 a0 "com/example/keelstream/keelstream/storage/LogLimits" "segmentBytes" "I" (.int f_a0_segmentBytes)) (g_a0 : n0 ≤ a0) (P_F_a0_retentionBytes : Fld Z h0 a0 "com/example/keelstream/keelstream/storage/LogLimits" "retentionBytes" "J" (.long f_a0_retentionBytes)) (P_F_a0_retentionMs : Fld Z h0 a0 "com/example/keelstream/keelstream/storage/LogLimits" "retentionMs" "J" (.long f_a0_retentionMs)) (P_F_a0_flushMessages : Fld Z h0 a0 "com/example/keelstream/keelstream/storage/LogLimits" "flushMessages" "J" (.long f_a0_flushMessages)) (P_F_a0_flushMs : Fld Z h0 a0 "com/example/keelstream/keelstream/storage/LogLimits" "flushMs" "J" (.long f_a0_flushMs)) :
    MetFree l (⟨"com/example/keelstream/keelstream/storage/LogLimits", "<init>", "(IJJJJ)V"⟩ : MethodName) (head1 (Jvm.Cond.code (⟨"com/example/keelstream/keelstream/storage/LogLimits", "<init>", "(IJJJJ)V"⟩ : MethodName) prog_75_method_1_code 10 none :: ws) ({ frames := 2, cells := 0, slots := 0, locals := 24 } : Room)) (fun a U => a = #[(.ref a0), (.int p1), (.long q2), (.long q3), (.long q4), (.long q5)] ∧ Z.Warmed39 U.vm ∧ U.heap = h0) (fun _ _ _ _ _ => True) (fun _ U o U' => ∃ v L, o = .returned v ∧ Q3 Z a0 p1 q2 q3 q4 q5 f_a0_segmentBytes f_a0_retentionBytes f_a0_retentionMs f_a0_flushMessages f_a0_flushMs h0 n0 v U'.heap L ∧ FrameEnd U o U' L 0 0) := by
  refine MetFree.of_bodySF (plainFor_of_name pn_3) hisR ?_
  intro p e s m args below meth c s₁ Bd hml0 hP hK
  obtain ⟨rfl, hZ, hh⟩ := hP
  have hx := Bd.exec
  have hby := Bd.bytes
  have hml : c.maxLocals = 10 := hml0
  have hlk : meth.locks = false := Bd.notSynchronized
  have hown : s.vm.findClass "com/example/keelstream/keelstream/storage/LogLimits" = some m.cls := findClass_of_methodNamed Bd.named
  have hnm := (name_of_methodNamed Bd.named Bd.method).1
  have X0 : Stand p l e ({ frames := 2, cells := 0, slots := 0, locals := 24 } : Room) s m #[(.ref a0), (.int p1), (.long q2), (.long q3), (.long q4), (.long q5)] below meth c s₁ [] 0 0 := Stand.of_body Bd
  have e0 : s₁.heap = h0 := by rw [← hh, Bd.state]; rfl
  have N0 := Fr.nil n0
  show own_Go p e below (own_Fin s 0 0 (Q3 Z a0 p1 q2 q3 q4 q5 f_a0_segmentBytes f_a0_retentionBytes f_a0_retentionMs f_a0_flushMessages f_a0_flushMs h0 n0)) _
  refine own_by (fun t k => castTop (ef_3 m a0 p1 q2 q3 q4 q5) k) ?_
  show own_Go p e below _ (s₁.setTop (mkF m 0 #[.val (.ref a0), .val (.int p1), .val (.long q2), .second, .val (.long q3), .second, .val (.long q4), .second, .val (.long q5), .second] []))
  refine own_by (fun _ k => XS.aloadN X0.here hx rfl (hb hby d3_0) rfl rfl k) ?_
  show own_Go p e below _ (s₁.setTop (mkF m 1 #[.val (.ref a0), .val (.int p1), .val (.long q2), .second, .val (.long q3), .second, .val (.long q4), .second, .val (.long q5), .second] [(.ref a0)]))
  obtain ⟨_, _, ⟨T1, L1, k1, n1⟩, -, X1, ⟨Lc1, hQ1, l1, y1, z1⟩, st1⟩ := X0.specialBack hx (y := (⟨"java/lang/Record", "<init>", "()V"⟩ : MethodName)) rfl hown (mvT hZ (hw _ (List.mem_of_getElem? (i := 16) rfl))) (mvT hZ (hw _ (List.mem_of_getElem? (i := 17) rfl))) (mvT hZ (hw _ (List.mem_of_getElem? (i := 20) rfl))) (by decide) (backOf (W := 0) (rm4 l Z A0 hw [] a0 h0 n0 Z0 ) hZ (hw _ (List.mem_of_getElem? (i := 20) rfl)) (hw _ (List.mem_of_getElem? (i := 19) rfl)) (by decide) (by decide)) (g := (mkF m 1 #[.val (.ref a0), .val (.int p1), .val (.long q2), .second, .val (.long q3), .second, .val (.long q4), .second, .val (.long q5), .second] [(.ref a0)])) rfl (by rw [hml]; rfl) (Steps.refl _) (a := a0) (argsL := []) (rest := []) (lenOf pd_16 rfl) rfl (by show 2 * 0 + _ ≤ _; exact Nat.le_of_eq rfl) (hb hby d3_1) (fun _ _ => ⟨rfl, e0, (by decide : 0 + 0 ≤ _), (by decide : 0 + 0 ≤ _)⟩)
  dsimp only [Pt.U, Pt.locs, Pt.cells, Pt.slots] at X1 l1 y1 z1 st1 hQ1
  subst l1 y1 z1
  obtain ⟨rfl, Nq1, eq1⟩ := hQ1
  have N1 := Fr.app N0 Nq1
  refine own_by (fun _ k => st1.trans k) ?_
  show own_Go p e below _ (T1.setTop (mkF m 4 #[.val (.ref a0), .val (.int p1), .val (.long q2), .second, .val (.long q3), .second, .val (.long q4), .second, .val (.long q5), .second] []))
  refine own_by (fun _ k => XS.iloadN X1.here hx rfl (hb hby d3_4) rfl k) ?_
  show own_Go p e below _ (T1.setTop (mkF m 5 #[.val (.ref a0), .val (.int p1), .val (.long q2), .second, .val (.long q3), .second, .val (.long q4), .second, .val (.long q5), .second] [(.int p1)]))
  refine own_by (fun _ k => XS.iconst X1.here hx rfl (hb hby d3_5) k) ?_
  show own_Go p e below _ (T1.setTop (mkF m 6 #[.val (.ref a0), .val (.int p1), .val (.long q2), .second, .val (.long q3), .second, .val (.long q4), .second, .val (.long q5), .second] [(.int (1 : Int32)), (.int p1)]))
  refine own_by (fun _ k => XS.icmpNo X1.here hx rfl (hb hby d3_6) rfl (flt hc6).1 k) ?_
  show own_Go p e below _ (T1.setTop (mkF m 9 #[.val (.ref a0), .val (.int p1), .val (.long q2), .second, .val (.long q3), .second, .val (.long q4), .second, .val (.long q5), .second] []))
  refine own_by (fun _ k => XS.lloadN X1.here hx rfl (hb hby d3_9) rfl k) ?_
  show own_Go p e below _ (T1.setTop (mkF m 10 #[.val (.ref a0), .val (.int p1), .val (.long q2), .second, .val (.long q3), .second, .val (.long q4), .second, .val (.long q5), .second] [(.long q2)]))
  refine own_by (fun t k => X1.ldc2Long hx hown (mvT hZ (hw _ (List.mem_of_getElem? (i := 24) rfl))) (g := (mkF m 10 #[.val (.ref a0), .val (.int p1), .val (.long q2), .second, .val (.long q3), .second, .val (.long q4), .second, .val (.long q5), .second] [(.long q2)])) rfl (hb hby d3_10) _ k) ?_
  show own_Go p e below _ (T1.setTop (mkF m 13 #[.val (.ref a0), .val (.int p1), .val (.long q2), .second, .val (.long q3), .second, .val (.long q4), .second, .val (.long q5), .second] [(.long (-1 : Int64)), (.long q2)]))
  refine own_by (fun _ k => XS.lcmp X1.here hx rfl (hb hby d3_13) rfl k) ?_
  show own_Go p e below _ (T1.setTop (mkF m 14 #[.val (.ref a0), .val (.int p1), .val (.long q2), .second, .val (.long q3), .second, .val (.long q4), .second, .val (.long q5), .second] [(.int (lcmpW q2 (-1 : Int64)))]))
  refine own_by (fun _ k => XS.ifNo X1.here hx rfl (hb hby d3_14) rfl ((if0 _ _).trans (flt (fun q => hc14 ((lw_lt _ _).mp q))).1) k) ?_
  show own_Go p e below _ (T1.setTop (mkF m 17 #[.val (.ref a0), .val (.int p1), .val (.long q2), .second, .val (.long q3), .second, .val (.long q4), .second, .val (.long q5), .second] []))
  refine own_by (fun _ k => XS.lload X1.here hx rfl (hb hby d3_17) rfl k) ?_
  show own_Go p e below _ (T1.setTop (mkF m 19 #[.val (.ref a0), .val (.int p1), .val (.long q2), .second, .val (.long q3), .second, .val (.long q4), .second, .val (.long q5), .second] [(.long q3)]))
  refine own_by (fun t k => X1.ldc2Long hx hown (mvT hZ (hw _ (List.mem_of_getElem? (i := 24) rfl))) (g := (mkF m 19 #[.val (.ref a0), .val (.int p1), .val (.long q2), .second, .val (.long q3), .second, .val (.long q4), .second, .val (.long q5), .second] [(.long q3)])) rfl (hb hby d3_19) _ k) ?_
  show own_Go p e below _ (T1.setTop (mkF m 22 #[.val (.ref a0), .val (.int p1), .val (.long q2), .second, .val (.long q3), .second, .val (.long q4), .second, .val (.long q5), .second] [(.long (-1 : Int64)), (.long q3)]))
  refine own_by (fun _ k => XS.lcmp X1.here hx rfl (hb hby d3_22) rfl k) ?_
  show own_Go p e below _ (T1.setTop (mkF m 23 #[.val (.ref a0), .val (.int p1), .val (.long q2), .second, .val (.long q3), .second, .val (.long q4), .second, .val (.long q5), .second] [(.int (lcmpW q3 (-1 : Int64)))]))
  refine own_by (fun _ k => XS.ifNo X1.here hx rfl (hb hby d3_23) rfl ((if0 _ _).trans (flt (fun q => hc23 ((lw_lt _ _).mp q))).1) k) ?_
  show own_Go p e below _ (T1.setTop (mkF m 26 #[.val (.ref a0), .val (.int p1), .val (.long q2), .second, .val (.long q3), .second, .val (.long q4), .second, .val (.long q5), .second] []))
  refine own_by (fun _ k => XS.lload X1.here hx rfl (hb hby d3_26) rfl k) ?_
  show own_Go p e below _ (T1.setTop (mkF m 28 #[.val (.ref a0), .val (.int p1), .val (.long q2), .second, .val (.long q3), .second, .val (.long q4), .second, .val (.long q5), .second] [(.long q4)]))
  refine own_by (fun _ k => XS.lconst X1.here hx rfl (hb hby d3_28) k) ?_
  show own_Go p e below _ (T1.setTop (mkF m 29 #[.val (.ref a0), .val (.int p1), .val (.long q2), .second, .val (.long q3), .second, .val (.long q4), .second, .val (.long q5), .second] [(.long (1 : Int64)), (.long q4)]))
  refine own_by (fun _ k => XS.lcmp X1.here hx rfl (hb hby d3_29) rfl k) ?_
  show own_Go p e below _ (T1.setTop (mkF m 30 #[.val (.ref a0), .val (.int p1), .val (.long q2), .second, .val (.long q3), .second, .val (.long q4), .second, .val (.long q5), .second] [(.int (lcmpW q4 (1 : Int64)))]))
  refine own_by (fun _ k => XS.ifNo X1.here hx rfl (hb hby d3_30) rfl ((if0 _ _).trans (flt (fun q => hc30 ((lw_lt _ _).mp q))).1) k) ?_
  show own_Go p e below _ (T1.setTop (mkF m 33 #[.val (.ref a0), .val (.int p1), .val (.long q2), .second, .val (.long q3), .second, .val (.long q4), .second, .val (.long q5), .second] []))
  refine own_by (fun _ k => XS.lload X1.here hx rfl (hb hby d3_33) rfl k) ?_
  show own_Go p e below _ (T1.setTop (mkF m 35 #[.val (.ref a0), .val (.int p1), .val (.long q2), .second, .val (.long q3), .second, .val (.long q4), .second, .val (.long q5), .second] [(.long q5)]))
  refine own_by (fun _ k => XS.lconst X1.here hx rfl (hb hby d3_35) k) ?_
  show own_Go p e below _ (T1.setTop (mkF m 36 #[.val (.ref a0), .val (.int p1), .val (.long q2), .second, .val (.long q3), .second, .val (.long q4), .second, .val (.long q5), .second] [(.long (1 : Int64)), (.long q5)]))
  refine own_by (fun _ k => XS.lcmp X1.here hx rfl (hb hby d3_36) rfl k) ?_
  show own_Go p e below _ (T1.setTop (mkF m 37 #[.val (.ref a0), .val (.int p1), .val (.long q2), .second, .val (.long q3), .second, .val (.long q4), .second, .val (.long q5), .second] [(.int (lcmpW q5 (1 : Int64)))]))
  refine own_by (fun _ k => XS.ifYes X1.here hx rfl (pc0 := 37) (pc' := 61) rfl (hb hby d3_37) rfl ((if0 _ _).trans (flt (fun q => hc37 ((lw_lt _ _).mp q))).2.1) (by decide) (by decide) k) ?_
  show own_Go p e below _ (T1.setTop (mkF m 61 #[.val (.ref a0), .val (.int p1), .val (.long q2), .second, .val (.long q3), .second, .val (.long q4), .second, .val (.long q5), .second] []))
  refine own_by (fun _ k => XS.aloadN X1.here hx rfl (hb hby d3_61) rfl rfl k) ?_
  show own_Go p e below _ (T1.setTop (mkF m 62 #[.val (.ref a0), .val (.int p1), .val (.long q2), .second, .val (.long q3), .second, .val (.long q4), .second, .val (.long q5), .second] [(.ref a0)]))
  refine own_by (fun _ k => XS.iloadN X1.here hx rfl (hb hby d3_62) rfl k) ?_
  show own_Go p e below _ (T1.setTop (mkF m 63 #[.val (.ref a0), .val (.int p1), .val (.long q2), .second, .val (.long q3), .second, .val (.long q4), .second, .val (.long q5), .second] [(.int p1), (.ref a0)]))
  obtain ⟨T2, h2, X2, e2, W2, st2⟩ := putF X1 hx hZ hown (host := "") (Or.inl (hw _ (List.mem_of_getElem? (i := 25) rfl))) Via.refl eq1 P_F_a0_segmentBytes P_E_a0 (Or.inr ⟨(hw _ (List.mem_of_getElem? (i := 26) rfl)), rfl, hnm⟩) (hw _ (List.mem_of_getElem? (i := 11) rfl)) (ty := .int) (by decide) rfl rfl (g := (mkF m 63 #[.val (.ref a0), .val (.int p1), .val (.long q2), .second, .val (.long q3), .second, .val (.long q4), .second, .val (.long q5), .second] [(.int p1), (.ref a0)])) rfl rfl (hb hby d3_63)
  have Fw2 : Fld Z h2 a0 "com/example/keelstream/keelstream/storage/LogLimits" "segmentBytes" "I" (.int p1) := P_F_a0_segmentBytes.same W2
  have K2 : Keep h0 h2 [a0] := (Keep.refl h0 [a0]).wr W2 (Or.inl (List.mem_of_getElem? (i := 0) rfl))
  have Z2 : n0 ≤ h2.size := Nat.le_trans Z0 (Keep.of_wr W2).1
  have N2 := Fr.snoc X2 N1 g_a0
  refine own_by st2 ?_
  show own_Go p e below _ (T2.setTop (mkF m 66 #[.val (.ref a0), .val (.int p1), .val (.long q2), .second, .val (.long q3), .second, .val (.long q4), .second, .val (.long q5), .second] []))
  refine own_by (fun _ k => XS.aloadN X2.here hx rfl (hb hby d3_66) rfl rfl k) ?_
  show own_Go p e below _ (T2.setTop (mkF m 67 #[.val (.ref a0), .val (.int p1), .val (.long q2), .second, .val (.long q3), .second, .val (.long q4), .second, .val (.long q5), .second] [(.ref a0)]))
  refine own_by (fun _ k => XS.lloadN X2.here hx rfl (hb hby d3_67) rfl k) ?_
  show own_Go p e below _ (T2.setTop (mkF m 68 #[.val (.ref a0), .val (.int p1), .val (.long q2), .second, .val (.long q3), .second, .val (.long q4), .second, .val (.long q5), .second] [(.long q2), (.ref a0)]))
  have F3 : Exa Z h2 a0 "com/example/keelstream/keelstream/storage/LogLimits" := (P_E_a0.wr W2)
  have F4 : Fld Z h2 a0 "com/example/keelstream/keelstream/storage/LogLimits" "retentionBytes" "J" (.long f_a0_retentionBytes) := (P_F_a0_retentionBytes.other W2 (Or.inr (slot_ne (Or.inr (hw _ (List.mem_of_getElem? (i := 28) rfl))) (Or.inr (hw _ (List.mem_of_getElem? (i := 26) rfl))) (by decide) (t := .long) (t' := .int) (by decide) (by decide))))
  obtain ⟨T5, h5, X5, e5, W5, st5⟩ := putF X2 hx hZ hown (host := "") (Or.inl (hw _ (List.mem_of_getElem? (i := 27) rfl))) Via.refl e2 F4 F3 (Or.inr ⟨(hw _ (List.mem_of_getElem? (i := 28) rfl)), rfl, hnm⟩) (hw _ (List.mem_of_getElem? (i := 11) rfl)) (ty := .long) (by decide) rfl rfl (g := (mkF m 68 #[.val (.ref a0), .val (.int p1), .val (.long q2), .second, .val (.long q3), .second, .val (.long q4), .second, .val (.long q5), .second] [(.long q2), (.ref a0)])) rfl rfl (hb hby d3_68)
  have Fw5 : Fld Z h5 a0 "com/example/keelstream/keelstream/storage/LogLimits" "retentionBytes" "J" (.long q2) := F4.same W5
  have K5 : Keep h0 h5 [a0] := K2.wr W5 (Or.inl (List.mem_of_getElem? (i := 0) rfl))
  have Z5 : n0 ≤ h5.size := Nat.le_trans Z2 (Keep.of_wr W5).1
  have N5 := Fr.snoc X5 N2 g_a0
  refine own_by st5 ?_
  show own_Go p e below _ (T5.setTop (mkF m 71 #[.val (.ref a0), .val (.int p1), .val (.long q2), .second, .val (.long q3), .second, .val (.long q4), .second, .val (.long q5), .second] []))
  refine own_by (fun _ k => XS.aloadN X5.here hx rfl (hb hby d3_71) rfl rfl k) ?_
  show own_Go p e below _ (T5.setTop (mkF m 72 #[.val (.ref a0), .val (.int p1), .val (.long q2), .second, .val (.long q3), .second, .val (.long q4), .second, .val (.long q5), .second] [(.ref a0)]))
  refine own_by (fun _ k => XS.lload X5.here hx rfl (hb hby d3_72) rfl k) ?_
  show own_Go p e below _ (T5.setTop (mkF m 74 #[.val (.ref a0), .val (.int p1), .val (.long q2), .second, .val (.long q3), .second, .val (.long q4), .second, .val (.long q5), .second] [(.long q3), (.ref a0)]))
  have F6 : Exa Z h5 a0 "com/example/keelstream/keelstream/storage/LogLimits" := (F3.wr W5)
  have F7 : Fld Z h5 a0 "com/example/keelstream/keelstream/storage/LogLimits" "retentionMs" "J" (.long f_a0_retentionMs) := ((P_F_a0_retentionMs.other W2 (Or.inr (slot_ne (Or.inr (hw _ (List.mem_of_getElem? (i := 30) rfl))) (Or.inr (hw _ (List.mem_of_getElem? (i := 26) rfl))) (by decide) (t := .long) (t' := .int) (by decide) (by decide)))).other W5 (Or.inr (slot_ne (Or.inr (hw _ (List.mem_of_getElem? (i := 30) rfl))) (Or.inr (hw _ (List.mem_of_getElem? (i := 28) rfl))) (by decide) (t := .long) (t' := .long) (by decide) (by decide))))
  obtain ⟨T8, h8, X8, e8, W8, st8⟩ := putF X5 hx hZ hown (host := "") (Or.inl (hw _ (List.mem_of_getElem? (i := 29) rfl))) Via.refl e5 F7 F6 (Or.inr ⟨(hw _ (List.mem_of_getElem? (i := 30) rfl)), rfl, hnm⟩) (hw _ (List.mem_of_getElem? (i := 11) rfl)) (ty := .long) (by decide) rfl rfl (g := (mkF m 74 #[.val (.ref a0), .val (.int p1), .val (.long q2), .second, .val (.long q3), .second, .val (.long q4), .second, .val (.long q5), .second] [(.long q3), (.ref a0)])) rfl rfl (hb hby d3_74)
  have Fw8 : Fld Z h8 a0 "com/example/keelstream/keelstream/storage/LogLimits" "retentionMs" "J" (.long q3) := F7.same W8
  have K8 : Keep h0 h8 [a0] := K5.wr W8 (Or.inl (List.mem_of_getElem? (i := 0) rfl))
  have Z8 : n0 ≤ h8.size := Nat.le_trans Z5 (Keep.of_wr W8).1
  have N8 := Fr.snoc X8 N5 g_a0
  refine own_by st8 ?_
  show own_Go p e below _ (T8.setTop (mkF m 77 #[.val (.ref a0), .val (.int p1), .val (.long q2), .second, .val (.long q3), .second, .val (.long q4), .second, .val (.long q5), .second] []))
  refine own_by (fun _ k => XS.aloadN X8.here hx rfl (hb hby d3_77) rfl rfl k) ?_
  show own_Go p e below _ (T8.setTop (mkF m 78 #[.val (.ref a0), .val (.int p1), .val (.long q2), .second, .val (.long q3), .second, .val (.long q4), .second, .val (.long q5), .second] [(.ref a0)]))
  refine own_by (fun _ k => XS.lload X8.here hx rfl (hb hby d3_78) rfl k) ?_
  show own_Go p e below _ (T8.setTop (mkF m 80 #[.val (.ref a0), .val (.int p1), .val (.long q2), .second, .val (.long q3), .second, .val (.long q4), .second, .val (.long q5), .second] [(.long q4), (.ref a0)]))
  have F9 : Exa Z h8 a0 "com/example/keelstream/keelstream/storage/LogLimits" := (F6.wr W8)
  have F10 : Fld Z h8 a0 "com/example/keelstream/keelstream/storage/LogLimits" "flushMessages" "J" (.long f_a0_flushMessages) := (((P_F_a0_flushMessages.other W2 (Or.inr (slot_ne (Or.inr (hw _ (List.mem_of_getElem? (i := 32) rfl))) (Or.inr (hw _ (List.mem_of_getElem? (i := 26) rfl))) (by decide) (t := .long) (t' := .int) (by decide) (by decide)))).other W5 (Or.inr (slot_ne (Or.inr (hw _ (List.mem_of_getElem? (i := 32) rfl))) (Or.inr (hw _ (List.mem_of_getElem? (i := 28) rfl))) (by decide) (t := .long) (t' := .long) (by decide) (by decide)))).other W8 (Or.inr (slot_ne (Or.inr (hw _ (List.mem_of_getElem? (i := 32) rfl))) (Or.inr (hw _ (List.mem_of_getElem? (i := 30) rfl))) (by decide) (t := .long) (t' := .long) (by decide) (by decide))))
  obtain ⟨T11, h11, X11, e11, W11, st11⟩ := putF X8 hx hZ hown (host := "") (Or.inl (hw _ (List.mem_of_getElem? (i := 31) rfl))) Via.refl e8 F10 F9 (Or.inr ⟨(hw _ (List.mem_of_getElem? (i := 32) rfl)), rfl, hnm⟩) (hw _ (List.mem_of_getElem? (i := 11) rfl)) (ty := .long) (by decide) rfl rfl (g := (mkF m 80 #[.val (.ref a0), .val (.int p1), .val (.long q2), .second, .val (.long q3), .second, .val (.long q4), .second, .val (.long q5), .second] [(.long q4), (.ref a0)])) rfl rfl (hb hby d3_80)
  have Fw11 : Fld Z h11 a0 "com/example/keelstream/keelstream/storage/LogLimits" "flushMessages" "J" (.long q4) := F10.same W11
  have K11 : Keep h0 h11 [a0] := K8.wr W11 (Or.inl (List.mem_of_getElem? (i := 0) rfl))
  have Z11 : n0 ≤ h11.size := Nat.le_trans Z8 (Keep.of_wr W11).1
  have N11 := Fr.snoc X11 N8 g_a0
  refine own_by st11 ?_
  show own_Go p e below _ (T11.setTop (mkF m 83 #[.val (.ref a0), .val (.int p1), .val (.long q2), .second, .val (.long q3), .second, .val (.long q4), .second, .val (.long q5), .second] []))
  refine own_by (fun _ k => XS.aloadN X11.here hx rfl (hb hby d3_83) rfl rfl k) ?_
  show own_Go p e below _ (T11.setTop (mkF m 84 #[.val (.ref a0), .val (.int p1), .val (.long q2), .second, .val (.long q3), .second, .val (.long q4), .second, .val (.long q5), .second] [(.ref a0)]))
  refine own_by (fun _ k => XS.lload X11.here hx rfl (hb hby d3_84) rfl k) ?_
  show own_Go p e below _ (T11.setTop (mkF m 86 #[.val (.ref a0), .val (.int p1), .val (.long q2), .second, .val (.long q3), .second, .val (.long q4), .second, .val (.long q5), .second] [(.long q5), (.ref a0)]))
  have F12 : Exa Z h11 a0 "com/example/keelstream/keelstream/storage/LogLimits" := (F9.wr W11)
  have F13 : Fld Z h11 a0 "com/example/keelstream/keelstream/storage/LogLimits" "flushMs" "J" (.long f_a0_flushMs) := ((((P_F_a0_flushMs.other W2 (Or.inr (slot_ne (Or.inr (hw _ (List.mem_of_getElem? (i := 34) rfl))) (Or.inr (hw _ (List.mem_of_getElem? (i := 26) rfl))) (by decide) (t := .long) (t' := .int) (by decide) (by decide)))).other W5 (Or.inr (slot_ne (Or.inr (hw _ (List.mem_of_getElem? (i := 34) rfl))) (Or.inr (hw _ (List.mem_of_getElem? (i := 28) rfl))) (by decide) (t := .long) (t' := .long) (by decide) (by decide)))).other W8 (Or.inr (slot_ne (Or.inr (hw _ (List.mem_of_getElem? (i := 34) rfl))) (Or.inr (hw _ (List.mem_of_getElem? (i := 30) rfl))) (by decide) (t := .long) (t' := .long) (by decide) (by decide)))).other W11 (Or.inr (slot_ne (Or.inr (hw _ (List.mem_of_getElem? (i := 34) rfl))) (Or.inr (hw _ (List.mem_of_getElem? (i := 32) rfl))) (by decide) (t := .long) (t' := .long) (by decide) (by decide))))
  obtain ⟨T14, h14, X14, e14, W14, st14⟩ := putF X11 hx hZ hown (host := "") (Or.inl (hw _ (List.mem_of_getElem? (i := 33) rfl))) Via.refl e11 F13 F12 (Or.inr ⟨(hw _ (List.mem_of_getElem? (i := 34) rfl)), rfl, hnm⟩) (hw _ (List.mem_of_getElem? (i := 11) rfl)) (ty := .long) (by decide) rfl rfl (g := (mkF m 86 #[.val (.ref a0), .val (.int p1), .val (.long q2), .second, .val (.long q3), .second, .val (.long q4), .second, .val (.long q5), .second] [(.long q5), (.ref a0)])) rfl rfl (hb hby d3_86)
  have Fw14 : Fld Z h14 a0 "com/example/keelstream/keelstream/storage/LogLimits" "flushMs" "J" (.long q5) := F13.same W14
  have K14 : Keep h0 h14 [a0] := K11.wr W14 (Or.inl (List.mem_of_getElem? (i := 0) rfl))
  have Z14 : n0 ≤ h14.size := Nat.le_trans Z11 (Keep.of_wr W14).1
  have N14 := Fr.snoc X14 N11 g_a0
  refine own_by st14 ?_
  show own_Go p e below _ (T14.setTop (mkF m 89 #[.val (.ref a0), .val (.int p1), .val (.long q2), .second, .val (.long q3), .second, .val (.long q4), .second, .val (.long q5), .second] []))
  have F15 : Exa Z h14 a0 "com/example/keelstream/keelstream/storage/LogLimits" := (F12.wr W14)
  have F16 : Fld Z h14 a0 "com/example/keelstream/keelstream/storage/LogLimits" "segmentBytes" "I" (.int p1) := ((((Fw2.other W5 (Or.inr (slot_ne (Or.inr (hw _ (List.mem_of_getElem? (i := 26) rfl))) (Or.inr (hw _ (List.mem_of_getElem? (i := 28) rfl))) (by decide) (t := .int) (t' := .long) (by decide) (by decide)))).other W8 (Or.inr (slot_ne (Or.inr (hw _ (List.mem_of_getElem? (i := 26) rfl))) (Or.inr (hw _ (List.mem_of_getElem? (i := 30) rfl))) (by decide) (t := .int) (t' := .long) (by decide) (by decide)))).other W11 (Or.inr (slot_ne (Or.inr (hw _ (List.mem_of_getElem? (i := 26) rfl))) (Or.inr (hw _ (List.mem_of_getElem? (i := 32) rfl))) (by decide) (t := .int) (t' := .long) (by decide) (by decide)))).other W14 (Or.inr (slot_ne (Or.inr (hw _ (List.mem_of_getElem? (i := 26) rfl))) (Or.inr (hw _ (List.mem_of_getElem? (i := 34) rfl))) (by decide) (t := .int) (t' := .long) (by decide) (by decide))))
  have F17 : Fld Z h14 a0 "com/example/keelstream/keelstream/storage/LogLimits" "retentionBytes" "J" (.long q2) := (((Fw5.other W8 (Or.inr (slot_ne (Or.inr (hw _ (List.mem_of_getElem? (i := 28) rfl))) (Or.inr (hw _ (List.mem_of_getElem? (i := 30) rfl))) (by decide) (t := .long) (t' := .long) (by decide) (by decide)))).other W11 (Or.inr (slot_ne (Or.inr (hw _ (List.mem_of_getElem? (i := 28) rfl))) (Or.inr (hw _ (List.mem_of_getElem? (i := 32) rfl))) (by decide) (t := .long) (t' := .long) (by decide) (by decide)))).other W14 (Or.inr (slot_ne (Or.inr (hw _ (List.mem_of_getElem? (i := 28) rfl))) (Or.inr (hw _ (List.mem_of_getElem? (i := 34) rfl))) (by decide) (t := .long) (t' := .long) (by decide) (by decide))))
  have F18 : Fld Z h14 a0 "com/example/keelstream/keelstream/storage/LogLimits" "retentionMs" "J" (.long q3) := ((Fw8.other W11 (Or.inr (slot_ne (Or.inr (hw _ (List.mem_of_getElem? (i := 30) rfl))) (Or.inr (hw _ (List.mem_of_getElem? (i := 32) rfl))) (by decide) (t := .long) (t' := .long) (by decide) (by decide)))).other W14 (Or.inr (slot_ne (Or.inr (hw _ (List.mem_of_getElem? (i := 30) rfl))) (Or.inr (hw _ (List.mem_of_getElem? (i := 34) rfl))) (by decide) (t := .long) (t' := .long) (by decide) (by decide))))
  have F19 : Fld Z h14 a0 "com/example/keelstream/keelstream/storage/LogLimits" "flushMessages" "J" (.long q4) := (Fw11.other W14 (Or.inr (slot_ne (Or.inr (hw _ (List.mem_of_getElem? (i := 32) rfl))) (Or.inr (hw _ (List.mem_of_getElem? (i := 34) rfl))) (by decide) (t := .long) (t' := .long) (by decide) (by decide))))
  exact own_ret0 X14 hx Bd.returns (hb hby d3_89) hlk e14 ⟨rfl, N14, K14, F15, F16, F17, F18, F19, Fw14⟩ (by decide) (by decide)
theorem pd_41 : parseMethodDescriptor "(J)J" = some ⟨[.long], some .long⟩ := by decide +kernel
theorem pd_2 : parseMethodDescriptor "(II)I" = some ⟨[.int, .int], some .int⟩ := by decide +kernel
theorem pd_7 : parseMethodDescriptor "(JJ)J" = some ⟨[.long, .long], some .long⟩ := by decide +kernel
theorem pd_13 : parseMethodDescriptor "(IJJJJ)V" = some ⟨[.int, .long, .long, .long, .long], none⟩ := by decide +kernel
theorem pd_35 : parseMethodDescriptor "()Z" = some ⟨[], some .boolean⟩ := by decide +kernel
theorem pn_0 : plainName "com/example/keelstream/keelstream/storage/LogLimitsHasFlushLimitPinLaw" = true := by first | (simp [plainName, overriddenIn]; done) | decide +kernel
theorem ef_0 (m : MethodId) (p0 : Int32) (p1 : Int32) (q2 : Int64) (q3 : Int64) (q4 : Int64) (q5 : Int64) : entryFrame m #[(.int p0), (.int p1), (.long q2), (.long q3), (.long q4), (.long q5)] maxLocals = mkF m 0 #[.val (.int p0), .val (.int p1), .val (.long q2), .second, .val (.long q3), .second, .val (.long q4), .second, .val (.long q5), .second, .unset, .unset, .unset, .unset, .unset, .unset, .unset, .unset, .unset, .unset, .unset, .unset, .unset] [] := by first | (simp [entryFrame, mkF, argsToLocals, Value.category, maxLocals]; done) | rfl
theorem ob_0_1 (p0 : Int32) (p1 : Int32) (q2 : Int64) (q3 : Int64) (q4 : Int64) (q5 : Int64) (z8 : Int32) (z17 : Int32) (y27 : Int64) (y37 : Int64) (o40 : Int32) (o43 : Int64) (o46 : Int64) (hj9 : (((p0 &&& (1 : Int32)) = (0 : Int32)) ∧ z8 = (0 : Int32)) ∨ ((¬ ((p0 &&& (1 : Int32)) = (0 : Int32))) ∧ z8 = (1 : Int32))) (hj18 : (((p0 &&& (2 : Int32)) = (0 : Int32)) ∧ z17 = (0 : Int32)) ∨ ((¬ ((p0 &&& (2 : Int32)) = (0 : Int32))) ∧ z17 = (1 : Int32))) (hj28 : ((z8 = (0 : Int32)) ∧ y27 = (9223372036854775807 : Int64)) ∨ ((¬ (z8 = (0 : Int32))) ∧ y27 = (((q4 &&& (9223372036854775807 : Int64)) % (9223372036854775806 : Int64)) + (1 : Int64)))) (hj38 : ((z17 = (0 : Int32)) ∧ y37 = (9223372036854775807 : Int64)) ∨ ((¬ (z17 = (0 : Int32))) ∧ y37 = (((q5 &&& (9223372036854775807 : Int64)) % (9223372036854775806 : Int64)) + (1 : Int64)))) (hp41 : (((1 : Int32) < (p1 &&& (2147483647 : Int32))) ∧ o40 = (p1 &&& (2147483647 : Int32))) ∨ ((¬ ((1 : Int32) < (p1 &&& (2147483647 : Int32)))) ∧ o40 = (1 : Int32))) (hp44 : (((-1 : Int64) < q2) ∧ o43 = q2) ∨ ((¬ ((-1 : Int64) < q2)) ∧ o43 = (-1 : Int64))) (hp47 : (((-1 : Int64) < q3) ∧ o46 = q3) ∨ ((¬ ((-1 : Int64) < q3)) ∧ o46 = (-1 : Int64))) : ¬ (o40 < (1 : Int32)) := by
  have d1 := own_drawn q4
  have d2 := own_drawn q5
  generalize (((q4 &&& (9223372036854775807 : Int64)) % (9223372036854775806 : Int64)) + (1 : Int64)) = D1 at *
  generalize (((q5 &&& (9223372036854775807 : Int64)) % (9223372036854775806 : Int64)) + (1 : Int64)) = D2 at *
  grind
theorem ob_0_2 (p0 : Int32) (p1 : Int32) (q2 : Int64) (q3 : Int64) (q4 : Int64) (q5 : Int64) (z8 : Int32) (z17 : Int32) (y27 : Int64) (y37 : Int64) (o40 : Int32) (o43 : Int64) (o46 : Int64) (hj9 : (((p0 &&& (1 : Int32)) = (0 : Int32)) ∧ z8 = (0 : Int32)) ∨ ((¬ ((p0 &&& (1 : Int32)) = (0 : Int32))) ∧ z8 = (1 : Int32))) (hj18 : (((p0 &&& (2 : Int32)) = (0 : Int32)) ∧ z17 = (0 : Int32)) ∨ ((¬ ((p0 &&& (2 : Int32)) = (0 : Int32))) ∧ z17 = (1 : Int32))) (hj28 : ((z8 = (0 : Int32)) ∧ y27 = (9223372036854775807 : Int64)) ∨ ((¬ (z8 = (0 : Int32))) ∧ y27 = (((q4 &&& (9223372036854775807 : Int64)) % (9223372036854775806 : Int64)) + (1 : Int64)))) (hj38 : ((z17 = (0 : Int32)) ∧ y37 = (9223372036854775807 : Int64)) ∨ ((¬ (z17 = (0 : Int32))) ∧ y37 = (((q5 &&& (9223372036854775807 : Int64)) % (9223372036854775806 : Int64)) + (1 : Int64)))) (hp41 : (((1 : Int32) < (p1 &&& (2147483647 : Int32))) ∧ o40 = (p1 &&& (2147483647 : Int32))) ∨ ((¬ ((1 : Int32) < (p1 &&& (2147483647 : Int32)))) ∧ o40 = (1 : Int32))) (hp44 : (((-1 : Int64) < q2) ∧ o43 = q2) ∨ ((¬ ((-1 : Int64) < q2)) ∧ o43 = (-1 : Int64))) (hp47 : (((-1 : Int64) < q3) ∧ o46 = q3) ∨ ((¬ ((-1 : Int64) < q3)) ∧ o46 = (-1 : Int64))) : ¬ (o43 < (-1 : Int64)) := by
  have d1 := own_drawn q4
  have d2 := own_drawn q5
  generalize (((q4 &&& (9223372036854775807 : Int64)) % (9223372036854775806 : Int64)) + (1 : Int64)) = D1 at *
  generalize (((q5 &&& (9223372036854775807 : Int64)) % (9223372036854775806 : Int64)) + (1 : Int64)) = D2 at *
  grind
theorem ob_0_3 (p0 : Int32) (p1 : Int32) (q2 : Int64) (q3 : Int64) (q4 : Int64) (q5 : Int64) (z8 : Int32) (z17 : Int32) (y27 : Int64) (y37 : Int64) (o40 : Int32) (o43 : Int64) (o46 : Int64) (hj9 : (((p0 &&& (1 : Int32)) = (0 : Int32)) ∧ z8 = (0 : Int32)) ∨ ((¬ ((p0 &&& (1 : Int32)) = (0 : Int32))) ∧ z8 = (1 : Int32))) (hj18 : (((p0 &&& (2 : Int32)) = (0 : Int32)) ∧ z17 = (0 : Int32)) ∨ ((¬ ((p0 &&& (2 : Int32)) = (0 : Int32))) ∧ z17 = (1 : Int32))) (hj28 : ((z8 = (0 : Int32)) ∧ y27 = (9223372036854775807 : Int64)) ∨ ((¬ (z8 = (0 : Int32))) ∧ y27 = (((q4 &&& (9223372036854775807 : Int64)) % (9223372036854775806 : Int64)) + (1 : Int64)))) (hj38 : ((z17 = (0 : Int32)) ∧ y37 = (9223372036854775807 : Int64)) ∨ ((¬ (z17 = (0 : Int32))) ∧ y37 = (((q5 &&& (9223372036854775807 : Int64)) % (9223372036854775806 : Int64)) + (1 : Int64)))) (hp41 : (((1 : Int32) < (p1 &&& (2147483647 : Int32))) ∧ o40 = (p1 &&& (2147483647 : Int32))) ∨ ((¬ ((1 : Int32) < (p1 &&& (2147483647 : Int32)))) ∧ o40 = (1 : Int32))) (hp44 : (((-1 : Int64) < q2) ∧ o43 = q2) ∨ ((¬ ((-1 : Int64) < q2)) ∧ o43 = (-1 : Int64))) (hp47 : (((-1 : Int64) < q3) ∧ o46 = q3) ∨ ((¬ ((-1 : Int64) < q3)) ∧ o46 = (-1 : Int64))) : ¬ (o46 < (-1 : Int64)) := by
  have d1 := own_drawn q4
  have d2 := own_drawn q5
  generalize (((q4 &&& (9223372036854775807 : Int64)) % (9223372036854775806 : Int64)) + (1 : Int64)) = D1 at *
  generalize (((q5 &&& (9223372036854775807 : Int64)) % (9223372036854775806 : Int64)) + (1 : Int64)) = D2 at *
  grind
theorem ob_0_4 (p0 : Int32) (p1 : Int32) (q2 : Int64) (q3 : Int64) (q4 : Int64) (q5 : Int64) (z8 : Int32) (z17 : Int32) (y27 : Int64) (y37 : Int64) (o40 : Int32) (o43 : Int64) (o46 : Int64) (hj9 : (((p0 &&& (1 : Int32)) = (0 : Int32)) ∧ z8 = (0 : Int32)) ∨ ((¬ ((p0 &&& (1 : Int32)) = (0 : Int32))) ∧ z8 = (1 : Int32))) (hj18 : (((p0 &&& (2 : Int32)) = (0 : Int32)) ∧ z17 = (0 : Int32)) ∨ ((¬ ((p0 &&& (2 : Int32)) = (0 : Int32))) ∧ z17 = (1 : Int32))) (hj28 : ((z8 = (0 : Int32)) ∧ y27 = (9223372036854775807 : Int64)) ∨ ((¬ (z8 = (0 : Int32))) ∧ y27 = (((q4 &&& (9223372036854775807 : Int64)) % (9223372036854775806 : Int64)) + (1 : Int64)))) (hj38 : ((z17 = (0 : Int32)) ∧ y37 = (9223372036854775807 : Int64)) ∨ ((¬ (z17 = (0 : Int32))) ∧ y37 = (((q5 &&& (9223372036854775807 : Int64)) % (9223372036854775806 : Int64)) + (1 : Int64)))) (hp41 : (((1 : Int32) < (p1 &&& (2147483647 : Int32))) ∧ o40 = (p1 &&& (2147483647 : Int32))) ∨ ((¬ ((1 : Int32) < (p1 &&& (2147483647 : Int32)))) ∧ o40 = (1 : Int32))) (hp44 : (((-1 : Int64) < q2) ∧ o43 = q2) ∨ ((¬ ((-1 : Int64) < q2)) ∧ o43 = (-1 : Int64))) (hp47 : (((-1 : Int64) < q3) ∧ o46 = q3) ∨ ((¬ ((-1 : Int64) < q3)) ∧ o46 = (-1 : Int64))) : ¬ (y27 < (1 : Int64)) := by
  have d1 := own_drawn q4
  have d2 := own_drawn q5
  generalize (((q4 &&& (9223372036854775807 : Int64)) % (9223372036854775806 : Int64)) + (1 : Int64)) = D1 at *
  generalize (((q5 &&& (9223372036854775807 : Int64)) % (9223372036854775806 : Int64)) + (1 : Int64)) = D2 at *
  grind
theorem ob_0_5 (p0 : Int32) (p1 : Int32) (q2 : Int64) (q3 : Int64) (q4 : Int64) (q5 : Int64) (z8 : Int32) (z17 : Int32) (y27 : Int64) (y37 : Int64) (o40 : Int32) (o43 : Int64) (o46 : Int64) (hj9 : (((p0 &&& (1 : Int32)) = (0 : Int32)) ∧ z8 = (0 : Int32)) ∨ ((¬ ((p0 &&& (1 : Int32)) = (0 : Int32))) ∧ z8 = (1 : Int32))) (hj18 : (((p0 &&& (2 : Int32)) = (0 : Int32)) ∧ z17 = (0 : Int32)) ∨ ((¬ ((p0 &&& (2 : Int32)) = (0 : Int32))) ∧ z17 = (1 : Int32))) (hj28 : ((z8 = (0 : Int32)) ∧ y27 = (9223372036854775807 : Int64)) ∨ ((¬ (z8 = (0 : Int32))) ∧ y27 = (((q4 &&& (9223372036854775807 : Int64)) % (9223372036854775806 : Int64)) + (1 : Int64)))) (hj38 : ((z17 = (0 : Int32)) ∧ y37 = (9223372036854775807 : Int64)) ∨ ((¬ (z17 = (0 : Int32))) ∧ y37 = (((q5 &&& (9223372036854775807 : Int64)) % (9223372036854775806 : Int64)) + (1 : Int64)))) (hp41 : (((1 : Int32) < (p1 &&& (2147483647 : Int32))) ∧ o40 = (p1 &&& (2147483647 : Int32))) ∨ ((¬ ((1 : Int32) < (p1 &&& (2147483647 : Int32)))) ∧ o40 = (1 : Int32))) (hp44 : (((-1 : Int64) < q2) ∧ o43 = q2) ∨ ((¬ ((-1 : Int64) < q2)) ∧ o43 = (-1 : Int64))) (hp47 : (((-1 : Int64) < q3) ∧ o46 = q3) ∨ ((¬ ((-1 : Int64) < q3)) ∧ o46 = (-1 : Int64))) : ¬ (y37 < (1 : Int64)) := by
  have d1 := own_drawn q4
  have d2 := own_drawn q5
  generalize (((q4 &&& (9223372036854775807 : Int64)) % (9223372036854775806 : Int64)) + (1 : Int64)) = D1 at *
  generalize (((q5 &&& (9223372036854775807 : Int64)) % (9223372036854775806 : Int64)) + (1 : Int64)) = D2 at *
  grind
theorem ob_0_6 (p0 : Int32) (p1 : Int32) (q2 : Int64) (q3 : Int64) (q4 : Int64) (q5 : Int64) (z8 : Int32) (z17 : Int32) (y27 : Int64) (y37 : Int64) (o40 : Int32) (o43 : Int64) (o46 : Int64) (z64 : Int32) (o67 : Int32) (hj9 : (((p0 &&& (1 : Int32)) = (0 : Int32)) ∧ z8 = (0 : Int32)) ∨ ((¬ ((p0 &&& (1 : Int32)) = (0 : Int32))) ∧ z8 = (1 : Int32))) (hj18 : (((p0 &&& (2 : Int32)) = (0 : Int32)) ∧ z17 = (0 : Int32)) ∨ ((¬ ((p0 &&& (2 : Int32)) = (0 : Int32))) ∧ z17 = (1 : Int32))) (hj28 : ((z8 = (0 : Int32)) ∧ y27 = (9223372036854775807 : Int64)) ∨ ((¬ (z8 = (0 : Int32))) ∧ y27 = (((q4 &&& (9223372036854775807 : Int64)) % (9223372036854775806 : Int64)) + (1 : Int64)))) (hj38 : ((z17 = (0 : Int32)) ∧ y37 = (9223372036854775807 : Int64)) ∨ ((¬ (z17 = (0 : Int32))) ∧ y37 = (((q5 &&& (9223372036854775807 : Int64)) % (9223372036854775806 : Int64)) + (1 : Int64)))) (hp41 : (((1 : Int32) < (p1 &&& (2147483647 : Int32))) ∧ o40 = (p1 &&& (2147483647 : Int32))) ∨ ((¬ ((1 : Int32) < (p1 &&& (2147483647 : Int32)))) ∧ o40 = (1 : Int32))) (hp44 : (((-1 : Int64) < q2) ∧ o43 = q2) ∨ ((¬ ((-1 : Int64) < q2)) ∧ o43 = (-1 : Int64))) (hp47 : (((-1 : Int64) < q3) ∧ o46 = q3) ∨ ((¬ ((-1 : Int64) < q3)) ∧ o46 = (-1 : Int64))) (hj65 : ((z8 = (0 : Int32)) ∧ (z17 = (0 : Int32)) ∧ z64 = (0 : Int32)) ∨ ((z8 = (0 : Int32)) ∧ (¬ (z17 = (0 : Int32))) ∧ z64 = (1 : Int32)) ∨ ((¬ (z8 = (0 : Int32))) ∧ z64 = (1 : Int32))) (hp68 : ((y27 = (9223372036854775807 : Int64)) ∧ (y37 = (9223372036854775807 : Int64)) ∧ o67 = (0 : Int32)) ∨ ((y27 = (9223372036854775807 : Int64)) ∧ (¬ (y37 = (9223372036854775807 : Int64))) ∧ o67 = (1 : Int32)) ∨ ((¬ (y27 = (9223372036854775807 : Int64))) ∧ o67 = (1 : Int32))) (c69 : ¬ (o67 = z64)) : False := by
  have d1 := own_drawn q4
  have d2 := own_drawn q5
  generalize (((q4 &&& (9223372036854775807 : Int64)) % (9223372036854775806 : Int64)) + (1 : Int64)) = D1 at *
  generalize (((q5 &&& (9223372036854775807 : Int64)) % (9223372036854775806 : Int64)) + (1 : Int64)) = D2 at *
  grind
def Q0 (Z : State) (p0 : Int32) (p1 : Int32) (q2 : Int64) (q3 : Int64) (q4 : Int64) (q5 : Int64) (h0 : Heap) (n0 : Nat) (v : Option Value) (h : Heap) (L : List Loc) : Prop := v = some (.int (1 : Int32)) ∧ Fr n0 L
set_option maxRecDepth 65536 in
set_option maxHeartbeats 40000000 in
theorem rm0 (l : Launch) (Z : State) (A0 : Array Value) (hw : ∀ d ∈ tables_1, d.before A0 Z = true) (ws : List Jvm.Cond) (p0 : Int32) (p1 : Int32) (q2 : Int64) (q3 : Int64) (q4 : Int64) (q5 : Int64) (h0 : Heap) (n0 : Nat) (Z0 : n0 ≤ h0.size) :
    MetFree l x (head1 (Jvm.Cond.code x code maxLocals ret :: ws) room_1) (fun a U => a = #[(.int p0), (.int p1), (.long q2), (.long q3), (.long q4), (.long q5)] ∧ Z.Warmed39 U.vm ∧ U.heap = h0) (fun _ _ _ _ _ => True) (fun _ U o U' => ∃ v L, o = .returned v ∧ Q0 Z p0 p1 q2 q3 q4 q5 h0 n0 v U'.heap L ∧ FrameEnd U o U' L 16 128) := by
  refine MetFree.of_bodySF (plainFor_of_name pn_0) hisR ?_
  intro p e s m args below meth c s₁ Bd hml0 hP hK
  obtain ⟨rfl, hZ, hh⟩ := hP
  have hx := Bd.exec
  have hby := Bd.bytes
  have hml : c.maxLocals = 23 := hml0
  have hlk : meth.locks = false := Bd.notSynchronized
  have hown : s.vm.findClass "com/example/keelstream/keelstream/storage/LogLimitsHasFlushLimitPinLaw" = some m.cls := findClass_of_methodNamed Bd.named
  have hnm := (name_of_methodNamed Bd.named Bd.method).1
  have X0 : Stand p l e room_1 s m #[(.int p0), (.int p1), (.long q2), (.long q3), (.long q4), (.long q5)] below meth c s₁ [] 0 0 := Stand.of_body Bd
  have e0 : s₁.heap = h0 := by rw [← hh, Bd.state]; rfl
  have N0 := Fr.nil n0
  show own_Go p e below (own_Fin s 16 128 (Q0 Z p0 p1 q2 q3 q4 q5 h0 n0)) _
  refine own_by (fun t k => castTop (ef_0 m p0 p1 q2 q3 q4 q5) k) ?_
  show own_Go p e below _ (s₁.setTop (mkF m 0 #[.val (.int p0), .val (.int p1), .val (.long q2), .second, .val (.long q3), .second, .val (.long q4), .second, .val (.long q5), .second, .unset, .unset, .unset, .unset, .unset, .unset, .unset, .unset, .unset, .unset, .unset, .unset, .unset] []))
  refine own_by (fun _ k => XS.iloadN X0.here hx rfl (hb hby at_0) rfl k) ?_
  show own_Go p e below _ (s₁.setTop (mkF m 1 #[.val (.int p0), .val (.int p1), .val (.long q2), .second, .val (.long q3), .second, .val (.long q4), .second, .val (.long q5), .second, .unset, .unset, .unset, .unset, .unset, .unset, .unset, .unset, .unset, .unset, .unset, .unset, .unset] [(.int p0)]))
  refine own_by (fun _ k => XS.iconst X0.here hx rfl (hb hby at_1) k) ?_
  show own_Go p e below _ (s₁.setTop (mkF m 2 #[.val (.int p0), .val (.int p1), .val (.long q2), .second, .val (.long q3), .second, .val (.long q4), .second, .val (.long q5), .second, .unset, .unset, .unset, .unset, .unset, .unset, .unset, .unset, .unset, .unset, .unset, .unset, .unset] [(.int (1 : Int32)), (.int p0)]))
  refine own_by (fun _ k => XS.iand X0.here hx rfl (hb hby at_2) rfl k) ?_
  show own_Go p e below _ (s₁.setTop (mkF m 3 #[.val (.int p0), .val (.int p1), .val (.long q2), .second, .val (.long q3), .second, .val (.long q4), .second, .val (.long q5), .second, .unset, .unset, .unset, .unset, .unset, .unset, .unset, .unset, .unset, .unset, .unset, .unset, .unset] [(.int (p0 &&& (1 : Int32)))]))
  have J2 : ∀ (T3 : State) (L4 : List Loc) (z8 : Int32), Stand p l e room_1 s m #[(.int p0), (.int p1), (.long q2), (.long q3), (.long q4), (.long q5)] below meth c T3 L4 0 0 → T3.heap = h0 → Fr n0 L4 → ((((p0 &&& (1 : Int32)) = (0 : Int32)) ∧ z8 = (0 : Int32)) ∨ ((¬ ((p0 &&& (1 : Int32)) = (0 : Int32))) ∧ z8 = (1 : Int32))) → own_Go p e below (own_Fin s 16 128 (Q0 Z p0 p1 q2 q3 q4 q5 h0 n0)) (T3.setTop (mkF m 11 #[.val (.int p0), .val (.int p1), .val (.long q2), .second, .val (.long q3), .second, .val (.long q4), .second, .val (.long q5), .second, .unset, .unset, .unset, .unset, .unset, .unset, .unset, .unset, .unset, .unset, .unset, .unset, .unset] [(.int z8)])) := by
    intro T3 L4 z8 X5 e6 N7 hj9
    refine own_by (fun _ k => XS.istore X5.here hx rfl (hb hby at_11) rfl (l' := #[.val (.int p0), .val (.int p1), .val (.long q2), .second, .val (.long q3), .second, .val (.long q4), .second, .val (.long q5), .second, .val (.int z8), .unset, .unset, .unset, .unset, .unset, .unset, .unset, .unset, .unset, .unset, .unset, .unset]) rfl k) ?_
    show own_Go p e below _ (T3.setTop (mkF m 13 #[.val (.int p0), .val (.int p1), .val (.long q2), .second, .val (.long q3), .second, .val (.long q4), .second, .val (.long q5), .second, .val (.int z8), .unset, .unset, .unset, .unset, .unset, .unset, .unset, .unset, .unset, .unset, .unset, .unset] []))
    refine own_by (fun _ k => XS.iloadN X5.here hx rfl (hb hby at_13) rfl k) ?_
    show own_Go p e below _ (T3.setTop (mkF m 14 #[.val (.int p0), .val (.int p1), .val (.long q2), .second, .val (.long q3), .second, .val (.long q4), .second, .val (.long q5), .second, .val (.int z8), .unset, .unset, .unset, .unset, .unset, .unset, .unset, .unset, .unset, .unset, .unset, .unset] [(.int p0)]))
    refine own_by (fun _ k => XS.iconst X5.here hx rfl (hb hby at_14) k) ?_
    show own_Go p e below _ (T3.setTop (mkF m 15 #[.val (.int p0), .val (.int p1), .val (.long q2), .second, .val (.long q3), .second, .val (.long q4), .second, .val (.long q5), .second, .val (.int z8), .unset, .unset, .unset, .unset, .unset, .unset, .unset, .unset, .unset, .unset, .unset, .unset] [(.int (2 : Int32)), (.int p0)]))
    refine own_by (fun _ k => XS.iand X5.here hx rfl (hb hby at_15) rfl k) ?_
    show own_Go p e below _ (T3.setTop (mkF m 16 #[.val (.int p0), .val (.int p1), .val (.long q2), .second, .val (.long q3), .second, .val (.long q4), .second, .val (.long q5), .second, .val (.int z8), .unset, .unset, .unset, .unset, .unset, .unset, .unset, .unset, .unset, .unset, .unset, .unset] [(.int (p0 &&& (2 : Int32)))]))
    have J11 : ∀ (T12 : State) (L13 : List Loc) (z17 : Int32), Stand p l e room_1 s m #[(.int p0), (.int p1), (.long q2), (.long q3), (.long q4), (.long q5)] below meth c T12 L13 0 0 → T12.heap = h0 → Fr n0 L13 → ((((p0 &&& (2 : Int32)) = (0 : Int32)) ∧ z17 = (0 : Int32)) ∨ ((¬ ((p0 &&& (2 : Int32)) = (0 : Int32))) ∧ z17 = (1 : Int32))) → own_Go p e below (own_Fin s 16 128 (Q0 Z p0 p1 q2 q3 q4 q5 h0 n0)) (T12.setTop (mkF m 24 #[.val (.int p0), .val (.int p1), .val (.long q2), .second, .val (.long q3), .second, .val (.long q4), .second, .val (.long q5), .second, .val (.int z8), .unset, .unset, .unset, .unset, .unset, .unset, .unset, .unset, .unset, .unset, .unset, .unset] [(.int z17)])) := by
      intro T12 L13 z17 X14 e15 N16 hj18
      refine own_by (fun _ k => XS.istore X14.here hx rfl (hb hby at_24) rfl (l' := #[.val (.int p0), .val (.int p1), .val (.long q2), .second, .val (.long q3), .second, .val (.long q4), .second, .val (.long q5), .second, .val (.int z8), .val (.int z17), .unset, .unset, .unset, .unset, .unset, .unset, .unset, .unset, .unset, .unset, .unset]) rfl k) ?_
      show own_Go p e below _ (T12.setTop (mkF m 26 #[.val (.int p0), .val (.int p1), .val (.long q2), .second, .val (.long q3), .second, .val (.long q4), .second, .val (.long q5), .second, .val (.int z8), .val (.int z17), .unset, .unset, .unset, .unset, .unset, .unset, .unset, .unset, .unset, .unset, .unset] []))
      refine own_by (fun _ k => XS.iload X14.here hx rfl (hb hby at_26) rfl k) ?_
      show own_Go p e below _ (T12.setTop (mkF m 28 #[.val (.int p0), .val (.int p1), .val (.long q2), .second, .val (.long q3), .second, .val (.long q4), .second, .val (.long q5), .second, .val (.int z8), .val (.int z17), .unset, .unset, .unset, .unset, .unset, .unset, .unset, .unset, .unset, .unset, .unset] [(.int z8)]))
      have J21 : ∀ (T22 : State) (L23 : List Loc) (y27 : Int64), Stand p l e room_1 s m #[(.int p0), (.int p1), (.long q2), (.long q3), (.long q4), (.long q5)] below meth c T22 L23 0 0 → T22.heap = h0 → Fr n0 L23 → (((z8 = (0 : Int32)) ∧ y27 = (9223372036854775807 : Int64)) ∨ ((¬ (z8 = (0 : Int32))) ∧ y27 = (((q4 &&& (9223372036854775807 : Int64)) % (9223372036854775806 : Int64)) + (1 : Int64)))) → own_Go p e below (own_Fin s 16 128 (Q0 Z p0 p1 q2 q3 q4 q5 h0 n0)) (T22.setTop (mkF m 42 #[.val (.int p0), .val (.int p1), .val (.long q2), .second, .val (.long q3), .second, .val (.long q4), .second, .val (.long q5), .second, .val (.int z8), .val (.int z17), .unset, .unset, .unset, .unset, .unset, .unset, .unset, .unset, .unset, .unset, .unset] [(.long y27)])) := by
        intro T22 L23 y27 X24 e25 N26 hj28
        refine own_by (fun _ k => XS.lstore X24.here hx rfl (hb hby at_42) rfl (l' := #[.val (.int p0), .val (.int p1), .val (.long q2), .second, .val (.long q3), .second, .val (.long q4), .second, .val (.long q5), .second, .val (.int z8), .val (.int z17), .val (.long y27), .second, .unset, .unset, .unset, .unset, .unset, .unset, .unset, .unset, .unset]) rfl k) ?_
        show own_Go p e below _ (T22.setTop (mkF m 44 #[.val (.int p0), .val (.int p1), .val (.long q2), .second, .val (.long q3), .second, .val (.long q4), .second, .val (.long q5), .second, .val (.int z8), .val (.int z17), .val (.long y27), .second, .unset, .unset, .unset, .unset, .unset, .unset, .unset, .unset, .unset] []))
        refine own_by (fun _ k => XS.iload X24.here hx rfl (hb hby at_44) rfl k) ?_
        show own_Go p e below _ (T22.setTop (mkF m 46 #[.val (.int p0), .val (.int p1), .val (.long q2), .second, .val (.long q3), .second, .val (.long q4), .second, .val (.long q5), .second, .val (.int z8), .val (.int z17), .val (.long y27), .second, .unset, .unset, .unset, .unset, .unset, .unset, .unset, .unset, .unset] [(.int z17)]))
        have J31 : ∀ (T32 : State) (L33 : List Loc) (y37 : Int64), Stand p l e room_1 s m #[(.int p0), (.int p1), (.long q2), (.long q3), (.long q4), (.long q5)] below meth c T32 L33 0 0 → T32.heap = h0 → Fr n0 L33 → (((z17 = (0 : Int32)) ∧ y37 = (9223372036854775807 : Int64)) ∨ ((¬ (z17 = (0 : Int32))) ∧ y37 = (((q5 &&& (9223372036854775807 : Int64)) % (9223372036854775806 : Int64)) + (1 : Int64)))) → own_Go p e below (own_Fin s 16 128 (Q0 Z p0 p1 q2 q3 q4 q5 h0 n0)) (T32.setTop (mkF m 60 #[.val (.int p0), .val (.int p1), .val (.long q2), .second, .val (.long q3), .second, .val (.long q4), .second, .val (.long q5), .second, .val (.int z8), .val (.int z17), .val (.long y27), .second, .unset, .unset, .unset, .unset, .unset, .unset, .unset, .unset, .unset] [(.long y37)])) := by
          intro T32 L33 y37 X34 e35 N36 hj38
          refine own_by (fun _ k => XS.lstore X34.here hx rfl (hb hby at_60) rfl (l' := #[.val (.int p0), .val (.int p1), .val (.long q2), .second, .val (.long q3), .second, .val (.long q4), .second, .val (.long q5), .second, .val (.int z8), .val (.int z17), .val (.long y27), .second, .val (.long y37), .second, .unset, .unset, .unset, .unset, .unset, .unset, .unset]) rfl k) ?_
          show own_Go p e below _ (T32.setTop (mkF m 62 #[.val (.int p0), .val (.int p1), .val (.long q2), .second, .val (.long q3), .second, .val (.long q4), .second, .val (.long q5), .second, .val (.int z8), .val (.int z17), .val (.long y27), .second, .val (.long y37), .second, .unset, .unset, .unset, .unset, .unset, .unset, .unset] []))
          refine own_by (fun _ k => XS.iconst X34.here hx rfl (hb hby at_62) k) ?_
          show own_Go p e below _ (T32.setTop (mkF m 63 #[.val (.int p0), .val (.int p1), .val (.long q2), .second, .val (.long q3), .second, .val (.long q4), .second, .val (.long q5), .second, .val (.int z8), .val (.int z17), .val (.long y27), .second, .val (.long y37), .second, .unset, .unset, .unset, .unset, .unset, .unset, .unset] [(.int (1 : Int32))]))
          refine own_by (fun _ k => XS.iloadN X34.here hx rfl (hb hby at_63) rfl k) ?_
          show own_Go p e below _ (T32.setTop (mkF m 64 #[.val (.int p0), .val (.int p1), .val (.long q2), .second, .val (.long q3), .second, .val (.long q4), .second, .val (.long q5), .second, .val (.int z8), .val (.int z17), .val (.long y27), .second, .val (.long y37), .second, .unset, .unset, .unset, .unset, .unset, .unset, .unset] [(.int p1), (.int (1 : Int32))]))
          refine own_by (fun t k => X34.ldcInt hx hown (mvT hZ (hw _ (List.mem_of_getElem? (i := 1) rfl))) (g := (mkF m 64 #[.val (.int p0), .val (.int p1), .val (.long q2), .second, .val (.long q3), .second, .val (.long q4), .second, .val (.long q5), .second, .val (.int z8), .val (.int z17), .val (.long y27), .second, .val (.long y37), .second, .unset, .unset, .unset, .unset, .unset, .unset, .unset] [(.int p1), (.int (1 : Int32))])) rfl (hb hby at_64) _ k) ?_
          show own_Go p e below _ (T32.setTop (mkF m 66 #[.val (.int p0), .val (.int p1), .val (.long q2), .second, .val (.long q3), .second, .val (.long q4), .second, .val (.long q5), .second, .val (.int z8), .val (.int z17), .val (.long y27), .second, .val (.long y37), .second, .unset, .unset, .unset, .unset, .unset, .unset, .unset] [(.int (2147483647 : Int32)), (.int p1), (.int (1 : Int32))]))
          refine own_by (fun _ k => XS.iand X34.here hx rfl (hb hby at_66) rfl k) ?_
          show own_Go p e below _ (T32.setTop (mkF m 67 #[.val (.int p0), .val (.int p1), .val (.long q2), .second, .val (.long q3), .second, .val (.long q4), .second, .val (.long q5), .second, .val (.int z8), .val (.int z17), .val (.long y27), .second, .val (.long y37), .second, .unset, .unset, .unset, .unset, .unset, .unset, .unset] [(.int (p1 &&& (2147483647 : Int32))), (.int (1 : Int32))]))
          obtain ⟨_, _, ⟨T39, L39, k39, n39⟩, -, X39, ⟨Lc39, hQ39, l39, y39, z39⟩, st39⟩ := Jvm.LawKit.callS X34 hx (y := (⟨"java/lang/Math", "max", "(II)I"⟩ : MethodName)) hown (mvT hZ (hw _ (List.mem_of_getElem? (i := 2) rfl))) (mvT hZ (hw _ (List.mem_of_getElem? (i := 3) rfl))) (mvT hZ (hw _ (List.mem_of_getElem? (i := 4) rfl))) (mvT hZ (hw _ (List.mem_of_getElem? (i := 5) rfl))) (by decide) (backOf (W := 0) (rm1 l Z A0 hw [] (1 : Int32) (p1 &&& (2147483647 : Int32)) h0 n0 Z0 ) hZ (hw _ (List.mem_of_getElem? (i := 5) rfl)) (hw _ (List.mem_of_getElem? (i := 4) rfl)) (by decide) (by decide)) (g := (mkF m 67 #[.val (.int p0), .val (.int p1), .val (.long q2), .second, .val (.long q3), .second, .val (.long q4), .second, .val (.long q5), .second, .val (.int z8), .val (.int z17), .val (.long y27), .second, .val (.long y37), .second, .unset, .unset, .unset, .unset, .unset, .unset, .unset] [(.int (p1 &&& (2147483647 : Int32))), (.int (1 : Int32))])) rfl (by rw [hml]; rfl) (argsL := [(.int (1 : Int32)), (.int (p1 &&& (2147483647 : Int32)))]) (rest := []) (lenOf pd_2 rfl) rfl (by show 2 * 0 + _ ≤ _; exact Nat.le_of_eq rfl) (hb hby at_67) (fun _ _ => ⟨rfl, e35, (by decide : 0 + 0 ≤ _), (by decide : 0 + 0 ≤ _)⟩)
          dsimp only [Pt.U, Pt.locs, Pt.cells, Pt.slots] at X39 l39 y39 z39 st39 hQ39
          subst l39 y39 z39
          obtain ⟨o40, rfl, Nq39, eq39, hp41⟩ := hQ39
          have N39 := Fr.app N36 Nq39
          refine own_by st39 ?_
          show own_Go p e below _ (T39.setTop (mkF m 70 #[.val (.int p0), .val (.int p1), .val (.long q2), .second, .val (.long q3), .second, .val (.long q4), .second, .val (.long q5), .second, .val (.int z8), .val (.int z17), .val (.long y27), .second, .val (.long y37), .second, .unset, .unset, .unset, .unset, .unset, .unset, .unset] [(.int o40)]))
          refine own_by (fun _ k => XS.istore X39.here hx rfl (hb hby at_70) rfl (l' := #[.val (.int p0), .val (.int p1), .val (.long q2), .second, .val (.long q3), .second, .val (.long q4), .second, .val (.long q5), .second, .val (.int z8), .val (.int z17), .val (.long y27), .second, .val (.long y37), .second, .val (.int o40), .unset, .unset, .unset, .unset, .unset, .unset]) rfl k) ?_
          show own_Go p e below _ (T39.setTop (mkF m 72 #[.val (.int p0), .val (.int p1), .val (.long q2), .second, .val (.long q3), .second, .val (.long q4), .second, .val (.long q5), .second, .val (.int z8), .val (.int z17), .val (.long y27), .second, .val (.long y37), .second, .val (.int o40), .unset, .unset, .unset, .unset, .unset, .unset] []))
          refine own_by (fun t k => X39.ldc2Long hx hown (mvT hZ (hw _ (List.mem_of_getElem? (i := 6) rfl))) (g := (mkF m 72 #[.val (.int p0), .val (.int p1), .val (.long q2), .second, .val (.long q3), .second, .val (.long q4), .second, .val (.long q5), .second, .val (.int z8), .val (.int z17), .val (.long y27), .second, .val (.long y37), .second, .val (.int o40), .unset, .unset, .unset, .unset, .unset, .unset] [])) rfl (hb hby at_72) _ k) ?_
          show own_Go p e below _ (T39.setTop (mkF m 75 #[.val (.int p0), .val (.int p1), .val (.long q2), .second, .val (.long q3), .second, .val (.long q4), .second, .val (.long q5), .second, .val (.int z8), .val (.int z17), .val (.long y27), .second, .val (.long y37), .second, .val (.int o40), .unset, .unset, .unset, .unset, .unset, .unset] [(.long (-1 : Int64))]))
          refine own_by (fun _ k => XS.lloadN X39.here hx rfl (hb hby at_75) rfl k) ?_
          show own_Go p e below _ (T39.setTop (mkF m 76 #[.val (.int p0), .val (.int p1), .val (.long q2), .second, .val (.long q3), .second, .val (.long q4), .second, .val (.long q5), .second, .val (.int z8), .val (.int z17), .val (.long y27), .second, .val (.long y37), .second, .val (.int o40), .unset, .unset, .unset, .unset, .unset, .unset] [(.long q2), (.long (-1 : Int64))]))
          obtain ⟨_, _, ⟨T42, L42, k42, n42⟩, -, X42, ⟨Lc42, hQ42, l42, y42, z42⟩, st42⟩ := Jvm.LawKit.callS X39 hx (y := (⟨"java/lang/Math", "max", "(JJ)J"⟩ : MethodName)) hown (mvT hZ (hw _ (List.mem_of_getElem? (i := 7) rfl))) (mvT hZ (hw _ (List.mem_of_getElem? (i := 8) rfl))) (mvT hZ (hw _ (List.mem_of_getElem? (i := 4) rfl))) (mvT hZ (hw _ (List.mem_of_getElem? (i := 9) rfl))) (by decide) (backOf (W := 0) (rm2 l Z A0 hw [] (-1 : Int64) q2 h0 n0 Z0 ) hZ (hw _ (List.mem_of_getElem? (i := 9) rfl)) (hw _ (List.mem_of_getElem? (i := 4) rfl)) (by decide) (by decide)) (g := (mkF m 76 #[.val (.int p0), .val (.int p1), .val (.long q2), .second, .val (.long q3), .second, .val (.long q4), .second, .val (.long q5), .second, .val (.int z8), .val (.int z17), .val (.long y27), .second, .val (.long y37), .second, .val (.int o40), .unset, .unset, .unset, .unset, .unset, .unset] [(.long q2), (.long (-1 : Int64))])) rfl (by rw [hml]; rfl) (argsL := [(.long (-1 : Int64)), (.long q2)]) (rest := []) (lenOf pd_7 rfl) rfl (by show 2 * 0 + _ ≤ _; exact Nat.le_of_eq rfl) (hb hby at_76) (fun _ _ => ⟨rfl, eq39, (by decide : 0 + 0 ≤ _), (by decide : 0 + 0 ≤ _)⟩)
          dsimp only [Pt.U, Pt.locs, Pt.cells, Pt.slots] at X42 l42 y42 z42 st42 hQ42
          subst l42 y42 z42
          obtain ⟨o43, rfl, Nq42, eq42, hp44⟩ := hQ42
          have N42 := Fr.app N39 Nq42
          refine own_by st42 ?_
          show own_Go p e below _ (T42.setTop (mkF m 79 #[.val (.int p0), .val (.int p1), .val (.long q2), .second, .val (.long q3), .second, .val (.long q4), .second, .val (.long q5), .second, .val (.int z8), .val (.int z17), .val (.long y27), .second, .val (.long y37), .second, .val (.int o40), .unset, .unset, .unset, .unset, .unset, .unset] [(.long o43)]))
          refine own_by (fun _ k => XS.lstore X42.here hx rfl (hb hby at_79) rfl (l' := #[.val (.int p0), .val (.int p1), .val (.long q2), .second, .val (.long q3), .second, .val (.long q4), .second, .val (.long q5), .second, .val (.int z8), .val (.int z17), .val (.long y27), .second, .val (.long y37), .second, .val (.int o40), .val (.long o43), .second, .unset, .unset, .unset, .unset]) rfl k) ?_
          show own_Go p e below _ (T42.setTop (mkF m 81 #[.val (.int p0), .val (.int p1), .val (.long q2), .second, .val (.long q3), .second, .val (.long q4), .second, .val (.long q5), .second, .val (.int z8), .val (.int z17), .val (.long y27), .second, .val (.long y37), .second, .val (.int o40), .val (.long o43), .second, .unset, .unset, .unset, .unset] []))
          refine own_by (fun t k => X42.ldc2Long hx hown (mvT hZ (hw _ (List.mem_of_getElem? (i := 6) rfl))) (g := (mkF m 81 #[.val (.int p0), .val (.int p1), .val (.long q2), .second, .val (.long q3), .second, .val (.long q4), .second, .val (.long q5), .second, .val (.int z8), .val (.int z17), .val (.long y27), .second, .val (.long y37), .second, .val (.int o40), .val (.long o43), .second, .unset, .unset, .unset, .unset] [])) rfl (hb hby at_81) _ k) ?_
          show own_Go p e below _ (T42.setTop (mkF m 84 #[.val (.int p0), .val (.int p1), .val (.long q2), .second, .val (.long q3), .second, .val (.long q4), .second, .val (.long q5), .second, .val (.int z8), .val (.int z17), .val (.long y27), .second, .val (.long y37), .second, .val (.int o40), .val (.long o43), .second, .unset, .unset, .unset, .unset] [(.long (-1 : Int64))]))
          refine own_by (fun _ k => XS.lload X42.here hx rfl (hb hby at_84) rfl k) ?_
          show own_Go p e below _ (T42.setTop (mkF m 86 #[.val (.int p0), .val (.int p1), .val (.long q2), .second, .val (.long q3), .second, .val (.long q4), .second, .val (.long q5), .second, .val (.int z8), .val (.int z17), .val (.long y27), .second, .val (.long y37), .second, .val (.int o40), .val (.long o43), .second, .unset, .unset, .unset, .unset] [(.long q3), (.long (-1 : Int64))]))
          obtain ⟨_, _, ⟨T45, L45, k45, n45⟩, -, X45, ⟨Lc45, hQ45, l45, y45, z45⟩, st45⟩ := Jvm.LawKit.callS X42 hx (y := (⟨"java/lang/Math", "max", "(JJ)J"⟩ : MethodName)) hown (mvT hZ (hw _ (List.mem_of_getElem? (i := 7) rfl))) (mvT hZ (hw _ (List.mem_of_getElem? (i := 8) rfl))) (mvT hZ (hw _ (List.mem_of_getElem? (i := 4) rfl))) (mvT hZ (hw _ (List.mem_of_getElem? (i := 9) rfl))) (by decide) (backOf (W := 0) (rm2 l Z A0 hw [] (-1 : Int64) q3 h0 n0 Z0 ) hZ (hw _ (List.mem_of_getElem? (i := 9) rfl)) (hw _ (List.mem_of_getElem? (i := 4) rfl)) (by decide) (by decide)) (g := (mkF m 86 #[.val (.int p0), .val (.int p1), .val (.long q2), .second, .val (.long q3), .second, .val (.long q4), .second, .val (.long q5), .second, .val (.int z8), .val (.int z17), .val (.long y27), .second, .val (.long y37), .second, .val (.int o40), .val (.long o43), .second, .unset, .unset, .unset, .unset] [(.long q3), (.long (-1 : Int64))])) rfl (by rw [hml]; rfl) (argsL := [(.long (-1 : Int64)), (.long q3)]) (rest := []) (lenOf pd_7 rfl) rfl (by show 2 * 0 + _ ≤ _; exact Nat.le_of_eq rfl) (hb hby at_86) (fun _ _ => ⟨rfl, eq42, (by decide : 0 + 0 ≤ _), (by decide : 0 + 0 ≤ _)⟩)
          dsimp only [Pt.U, Pt.locs, Pt.cells, Pt.slots] at X45 l45 y45 z45 st45 hQ45
          subst l45 y45 z45
          obtain ⟨o46, rfl, Nq45, eq45, hp47⟩ := hQ45
          have N45 := Fr.app N42 Nq45
          refine own_by st45 ?_
          show own_Go p e below _ (T45.setTop (mkF m 89 #[.val (.int p0), .val (.int p1), .val (.long q2), .second, .val (.long q3), .second, .val (.long q4), .second, .val (.long q5), .second, .val (.int z8), .val (.int z17), .val (.long y27), .second, .val (.long y37), .second, .val (.int o40), .val (.long o43), .second, .unset, .unset, .unset, .unset] [(.long o46)]))
          refine own_by (fun _ k => XS.lstore X45.here hx rfl (hb hby at_89) rfl (l' := #[.val (.int p0), .val (.int p1), .val (.long q2), .second, .val (.long q3), .second, .val (.long q4), .second, .val (.long q5), .second, .val (.int z8), .val (.int z17), .val (.long y27), .second, .val (.long y37), .second, .val (.int o40), .val (.long o43), .second, .val (.long o46), .second, .unset, .unset]) rfl k) ?_
          show own_Go p e below _ (T45.setTop (mkF m 91 #[.val (.int p0), .val (.int p1), .val (.long q2), .second, .val (.long q3), .second, .val (.long q4), .second, .val (.long q5), .second, .val (.int z8), .val (.int z17), .val (.long y27), .second, .val (.long y37), .second, .val (.int o40), .val (.long o43), .second, .val (.long o46), .second, .unset, .unset] []))
          obtain ⟨T48, h48, X48, e48, E48, A48, D48, -, st48⟩ := newO X45 hx hZ hown (hw _ (List.mem_of_getElem? (i := 10) rfl)) (hw _ (List.mem_of_getElem? (i := 11) rfl)) (hw _ (List.mem_of_getElem? (i := 12) rfl)) eq45 (g := (mkF m 91 #[.val (.int p0), .val (.int p1), .val (.long q2), .second, .val (.long q3), .second, .val (.long q4), .second, .val (.long q5), .second, .val (.int z8), .val (.int z17), .val (.long y27), .second, .val (.long y37), .second, .val (.int o40), .val (.long o43), .second, .val (.long o46), .second, .unset, .unset] [])) rfl (hb hby at_91) (by decide) (by decide)
          obtain ⟨b48, g48⟩ : ∃ z, z = h0.size := ⟨_, rfl⟩
          have ge_b48 : n0 ≤ b48 := Nat.le_trans Z0 (Nat.le_of_eq g48.symm)
          have sz_b48 : h0.size ≤ b48 := Nat.le_trans (Keep.refl h0 []).1 (Nat.le_of_eq g48.symm)
          have K48 : Keep h0 h48 [] := (Keep.refl h0 []).ext E48
          have Z48 : n0 ≤ h48.size := Nat.le_trans Z0 E48.1
          rw [← g48] at A48 D48 st48
          have F_segmentBytes_b48 : Fld Z h48 b48 "com/example/keelstream/keelstream/storage/LogLimits" "segmentBytes" "I" (.int (0 : Int32)) := D48 (Or.inr (hw _ (List.mem_of_getElem? (i := 26) rfl))) (ty := .int) (by decide)
          have F_retentionBytes_b48 : Fld Z h48 b48 "com/example/keelstream/keelstream/storage/LogLimits" "retentionBytes" "J" (.long (0 : Int64)) := D48 (Or.inr (hw _ (List.mem_of_getElem? (i := 28) rfl))) (ty := .long) (by decide)
          have F_retentionMs_b48 : Fld Z h48 b48 "com/example/keelstream/keelstream/storage/LogLimits" "retentionMs" "J" (.long (0 : Int64)) := D48 (Or.inr (hw _ (List.mem_of_getElem? (i := 30) rfl))) (ty := .long) (by decide)
          have F_flushMessages_b48 : Fld Z h48 b48 "com/example/keelstream/keelstream/storage/LogLimits" "flushMessages" "J" (.long (0 : Int64)) := D48 (Or.inr (hw _ (List.mem_of_getElem? (i := 32) rfl))) (ty := .long) (by decide)
          have F_flushMs_b48 : Fld Z h48 b48 "com/example/keelstream/keelstream/storage/LogLimits" "flushMs" "J" (.long (0 : Int64)) := D48 (Or.inr (hw _ (List.mem_of_getElem? (i := 34) rfl))) (ty := .long) (by decide)
          refine own_by st48 ?_
          show own_Go p e below _ (T48.setTop (mkF m 94 #[.val (.int p0), .val (.int p1), .val (.long q2), .second, .val (.long q3), .second, .val (.long q4), .second, .val (.long q5), .second, .val (.int z8), .val (.int z17), .val (.long y27), .second, .val (.long y37), .second, .val (.int o40), .val (.long o43), .second, .val (.long o46), .second, .unset, .unset] [(.ref b48)]))
          refine own_by (fun _ k => XS.dup X48.here hx rfl (hb hby at_94) rfl rfl k) ?_
          show own_Go p e below _ (T48.setTop (mkF m 95 #[.val (.int p0), .val (.int p1), .val (.long q2), .second, .val (.long q3), .second, .val (.long q4), .second, .val (.long q5), .second, .val (.int z8), .val (.int z17), .val (.long y27), .second, .val (.long y37), .second, .val (.int o40), .val (.long o43), .second, .val (.long o46), .second, .unset, .unset] [(.ref b48), (.ref b48)]))
          refine own_by (fun _ k => XS.iload X48.here hx rfl (hb hby at_95) rfl k) ?_
          show own_Go p e below _ (T48.setTop (mkF m 97 #[.val (.int p0), .val (.int p1), .val (.long q2), .second, .val (.long q3), .second, .val (.long q4), .second, .val (.long q5), .second, .val (.int z8), .val (.int z17), .val (.long y27), .second, .val (.long y37), .second, .val (.int o40), .val (.long o43), .second, .val (.long o46), .second, .unset, .unset] [(.int o40), (.ref b48), (.ref b48)]))
          refine own_by (fun _ k => XS.lload X48.here hx rfl (hb hby at_97) rfl k) ?_
          show own_Go p e below _ (T48.setTop (mkF m 99 #[.val (.int p0), .val (.int p1), .val (.long q2), .second, .val (.long q3), .second, .val (.long q4), .second, .val (.long q5), .second, .val (.int z8), .val (.int z17), .val (.long y27), .second, .val (.long y37), .second, .val (.int o40), .val (.long o43), .second, .val (.long o46), .second, .unset, .unset] [(.long o43), (.int o40), (.ref b48), (.ref b48)]))
          refine own_by (fun _ k => XS.lload X48.here hx rfl (hb hby at_99) rfl k) ?_
          show own_Go p e below _ (T48.setTop (mkF m 101 #[.val (.int p0), .val (.int p1), .val (.long q2), .second, .val (.long q3), .second, .val (.long q4), .second, .val (.long q5), .second, .val (.int z8), .val (.int z17), .val (.long y27), .second, .val (.long y37), .second, .val (.int o40), .val (.long o43), .second, .val (.long o46), .second, .unset, .unset] [(.long o46), (.long o43), (.int o40), (.ref b48), (.ref b48)]))
          refine own_by (fun _ k => XS.lload X48.here hx rfl (hb hby at_101) rfl k) ?_
          show own_Go p e below _ (T48.setTop (mkF m 103 #[.val (.int p0), .val (.int p1), .val (.long q2), .second, .val (.long q3), .second, .val (.long q4), .second, .val (.long q5), .second, .val (.int z8), .val (.int z17), .val (.long y27), .second, .val (.long y37), .second, .val (.int o40), .val (.long o43), .second, .val (.long o46), .second, .unset, .unset] [(.long y27), (.long o46), (.long o43), (.int o40), (.ref b48), (.ref b48)]))
          refine own_by (fun _ k => XS.lload X48.here hx rfl (hb hby at_103) rfl k) ?_
          show own_Go p e below _ (T48.setTop (mkF m 105 #[.val (.int p0), .val (.int p1), .val (.long q2), .second, .val (.long q3), .second, .val (.long q4), .second, .val (.long q5), .second, .val (.int z8), .val (.int z17), .val (.long y27), .second, .val (.long y37), .second, .val (.int o40), .val (.long o43), .second, .val (.long o46), .second, .unset, .unset] [(.long y37), (.long y27), (.long o46), (.long o43), (.int o40), (.ref b48), (.ref b48)]))
          obtain ⟨_, _, ⟨T49, L49, k49, n49⟩, -, X49, ⟨Lc49, hQ49, l49, y49, z49⟩, st49⟩ := X48.specialBack hx (y := (⟨"com/example/keelstream/keelstream/storage/LogLimits", "<init>", "(IJJJJ)V"⟩ : MethodName)) rfl hown (mvT hZ (hw _ (List.mem_of_getElem? (i := 13) rfl))) (mvT hZ (hw _ (List.mem_of_getElem? (i := 14) rfl))) (mvT hZ (hw _ (List.mem_of_getElem? (i := 15) rfl))) (by decide) (backOf (W := 1) (rm3 l Z A0 hw [] b48 o40 o43 o46 y27 y37 (0 : Int32) (0 : Int64) (0 : Int64) (0 : Int64) (0 : Int64) h48 n0 Z48 (ob_0_1 p0 p1 q2 q3 q4 q5 z8 z17 y27 y37 o40 o43 o46 hj9 hj18 hj28 hj38 hp41 hp44 hp47) (ob_0_2 p0 p1 q2 q3 q4 q5 z8 z17 y27 y37 o40 o43 o46 hj9 hj18 hj28 hj38 hp41 hp44 hp47) (ob_0_3 p0 p1 q2 q3 q4 q5 z8 z17 y27 y37 o40 o43 o46 hj9 hj18 hj28 hj38 hp41 hp44 hp47) (ob_0_4 p0 p1 q2 q3 q4 q5 z8 z17 y27 y37 o40 o43 o46 hj9 hj18 hj28 hj38 hp41 hp44 hp47) (ob_0_5 p0 p1 q2 q3 q4 q5 z8 z17 y27 y37 o40 o43 o46 hj9 hj18 hj28 hj38 hp41 hp44 hp47) A48 F_segmentBytes_b48 ge_b48 F_retentionBytes_b48 F_retentionMs_b48 F_flushMessages_b48 F_flushMs_b48) hZ (hw _ (List.mem_of_getElem? (i := 15) rfl)) (hw _ (List.mem_of_getElem? (i := 12) rfl)) (by decide) (by decide)) (g := (mkF m 105 #[.val (.int p0), .val (.int p1), .val (.long q2), .second, .val (.long q3), .second, .val (.long q4), .second, .val (.long q5), .second, .val (.int z8), .val (.int z17), .val (.long y27), .second, .val (.long y37), .second, .val (.int o40), .val (.long o43), .second, .val (.long o46), .second, .unset, .unset] [(.long y37), (.long y27), (.long o46), (.long o43), (.int o40), (.ref b48), (.ref b48)])) rfl (by rw [hml]; rfl) (Steps.refl _) (a := b48) (argsL := [(.int o40), (.long o43), (.long o46), (.long y27), (.long y37)]) (rest := [(.ref b48)]) (lenOf pd_13 rfl) rfl (by show 2 * 0 + _ ≤ _; exact Nat.le_of_eq rfl) (hb hby at_105) (fun _ _ => ⟨rfl, e48, (by decide : 1 + 0 ≤ _), (by decide : 5 + 0 ≤ _)⟩)
          dsimp only [Pt.U, Pt.locs, Pt.cells, Pt.slots] at X49 l49 y49 z49 st49 hQ49
          subst l49 y49 z49
          obtain ⟨rfl, Nq49, Kq49, F50, F51, F52, F53, F54, F55⟩ := hQ49
          have N49 := Fr.app N45 Nq49
          have K49 : Keep h0 T49.heap [] := K48.trans Kq49 ((allS (Or.inr sz_b48) all0))
          have Z49 : n0 ≤ T49.heap.size := Nat.le_trans Z48 Kq49.1
          refine own_by (fun _ k => st49.trans k) ?_
          show own_Go p e below _ (T49.setTop (mkF m 108 #[.val (.int p0), .val (.int p1), .val (.long q2), .second, .val (.long q3), .second, .val (.long q4), .second, .val (.long q5), .second, .val (.int z8), .val (.int z17), .val (.long y27), .second, .val (.long y37), .second, .val (.int o40), .val (.long o43), .second, .val (.long o46), .second, .unset, .unset] [(.ref b48)]))
          refine own_by (fun _ k => XS.astore X49.here hx rfl (hb hby at_108) rfl rfl (l' := #[.val (.int p0), .val (.int p1), .val (.long q2), .second, .val (.long q3), .second, .val (.long q4), .second, .val (.long q5), .second, .val (.int z8), .val (.int z17), .val (.long y27), .second, .val (.long y37), .second, .val (.int o40), .val (.long o43), .second, .val (.long o46), .second, .val (.ref b48), .unset]) rfl k) ?_
          show own_Go p e below _ (T49.setTop (mkF m 110 #[.val (.int p0), .val (.int p1), .val (.long q2), .second, .val (.long q3), .second, .val (.long q4), .second, .val (.long q5), .second, .val (.int z8), .val (.int z17), .val (.long y27), .second, .val (.long y37), .second, .val (.int o40), .val (.long o43), .second, .val (.long o46), .second, .val (.ref b48), .unset] []))
          refine own_by (fun _ k => XS.iload X49.here hx rfl (hb hby at_110) rfl k) ?_
          show own_Go p e below _ (T49.setTop (mkF m 112 #[.val (.int p0), .val (.int p1), .val (.long q2), .second, .val (.long q3), .second, .val (.long q4), .second, .val (.long q5), .second, .val (.int z8), .val (.int z17), .val (.long y27), .second, .val (.long y37), .second, .val (.int o40), .val (.long o43), .second, .val (.long o46), .second, .val (.ref b48), .unset] [(.int z8)]))
          have J58 : ∀ (T59 : State) (L60 : List Loc) (z64 : Int32), Stand p l e room_1 s m #[(.int p0), (.int p1), (.long q2), (.long q3), (.long q4), (.long q5)] below meth c T59 L60 1 5 → T59.heap = T49.heap → Fr n0 L60 → (((z8 = (0 : Int32)) ∧ (z17 = (0 : Int32)) ∧ z64 = (0 : Int32)) ∨ ((z8 = (0 : Int32)) ∧ (¬ (z17 = (0 : Int32))) ∧ z64 = (1 : Int32)) ∨ ((¬ (z8 = (0 : Int32))) ∧ z64 = (1 : Int32))) → own_Go p e below (own_Fin s 16 128 (Q0 Z p0 p1 q2 q3 q4 q5 h0 n0)) (T59.setTop (mkF m 125 #[.val (.int p0), .val (.int p1), .val (.long q2), .second, .val (.long q3), .second, .val (.long q4), .second, .val (.long q5), .second, .val (.int z8), .val (.int z17), .val (.long y27), .second, .val (.long y37), .second, .val (.int o40), .val (.long o43), .second, .val (.long o46), .second, .val (.ref b48), .unset] [(.int z64)])) := by
            intro T59 L60 z64 X61 e62 N63 hj65
            refine own_by (fun _ k => XS.istore X61.here hx rfl (hb hby at_125) rfl (l' := #[.val (.int p0), .val (.int p1), .val (.long q2), .second, .val (.long q3), .second, .val (.long q4), .second, .val (.long q5), .second, .val (.int z8), .val (.int z17), .val (.long y27), .second, .val (.long y37), .second, .val (.int o40), .val (.long o43), .second, .val (.long o46), .second, .val (.ref b48), .val (.int z64)]) rfl k) ?_
            show own_Go p e below _ (T59.setTop (mkF m 127 #[.val (.int p0), .val (.int p1), .val (.long q2), .second, .val (.long q3), .second, .val (.long q4), .second, .val (.long q5), .second, .val (.int z8), .val (.int z17), .val (.long y27), .second, .val (.long y37), .second, .val (.int o40), .val (.long o43), .second, .val (.long o46), .second, .val (.ref b48), .val (.int z64)] []))
            refine own_by (fun _ k => XS.aload X61.here hx rfl (hb hby at_127) rfl rfl k) ?_
            show own_Go p e below _ (T59.setTop (mkF m 129 #[.val (.int p0), .val (.int p1), .val (.long q2), .second, .val (.long q3), .second, .val (.long q4), .second, .val (.long q5), .second, .val (.int z8), .val (.int z17), .val (.long y27), .second, .val (.long y37), .second, .val (.int o40), .val (.long o43), .second, .val (.long o46), .second, .val (.ref b48), .val (.int z64)] [(.ref b48)]))
            obtain ⟨cq66, kq66, q66a, q66b, q66c⟩ := isOf hZ e62 F50
            obtain ⟨_, _, ⟨T66, L66, k66, n66⟩, -, X66, ⟨Lc66, hQ66, l66, y66, z66⟩, st66⟩ := X61.virtualBack hx (y := (⟨"com/example/keelstream/keelstream/storage/LogLimits", "hasFlushLimit", "()Z"⟩ : MethodName)) (z := (⟨"com/example/keelstream/keelstream/storage/LogLimits", "hasFlushLimit", "()Z"⟩ : MethodName)) hown (mvT hZ (hw _ (List.mem_of_getElem? (i := 35) rfl))) (mvT hZ (hw _ (List.mem_of_getElem? (i := 36) rfl))) (notFace_of_selects (args := #[]) (mvT hZ (hw _ (List.mem_of_getElem? (i := 38) rfl)))) (mvT hZ (hw _ (List.mem_of_getElem? (i := 38) rfl))) (mvT hZ (hw _ (List.mem_of_getElem? (i := 37) rfl))) (by decide) (backOf (W := 0) (rm6 l Z A0 hw [] b48 y27 y37 T49.heap n0 Z49 F54 F55) hZ (hw _ (List.mem_of_getElem? (i := 39) rfl)) (hw _ (List.mem_of_getElem? (i := 12) rfl)) (by decide) (by decide)) q66a q66c (g := (mkF m 129 #[.val (.int p0), .val (.int p1), .val (.long q2), .second, .val (.long q3), .second, .val (.long q4), .second, .val (.long q5), .second, .val (.int z8), .val (.int z17), .val (.long y27), .second, .val (.long y37), .second, .val (.int o40), .val (.long o43), .second, .val (.long o46), .second, .val (.ref b48), .val (.int z64)] [(.ref b48)])) rfl (by rw [hml]; rfl) (Steps.refl _) (argsL := []) (rest := []) (lenOf pd_35 rfl) rfl (by show 2 * 0 + _ ≤ _; exact Nat.le_of_eq rfl) (hb hby at_129) (fun _ _ => ⟨rfl, e62, (by decide : 1 + 0 ≤ _), (by decide : 5 + 0 ≤ _)⟩)
            dsimp only [Pt.U, Pt.locs, Pt.cells, Pt.slots] at X66 l66 y66 z66 st66 hQ66
            subst l66 y66 z66
            obtain ⟨o67, rfl, Nq66, eq66, hp68⟩ := hQ66
            have N66 := Fr.app N63 Nq66
            refine own_by (fun _ k => st66.trans k) ?_
            show own_Go p e below _ (T66.setTop (mkF m 132 #[.val (.int p0), .val (.int p1), .val (.long q2), .second, .val (.long q3), .second, .val (.long q4), .second, .val (.long q5), .second, .val (.int z8), .val (.int z17), .val (.long y27), .second, .val (.long y37), .second, .val (.int o40), .val (.long o43), .second, .val (.long o46), .second, .val (.ref b48), .val (.int z64)] [(.int o67)]))
            refine own_by (fun _ k => XS.iload X66.here hx rfl (hb hby at_132) rfl k) ?_
            show own_Go p e below _ (T66.setTop (mkF m 134 #[.val (.int p0), .val (.int p1), .val (.long q2), .second, .val (.long q3), .second, .val (.long q4), .second, .val (.long q5), .second, .val (.int z8), .val (.int z17), .val (.long y27), .second, .val (.long y37), .second, .val (.int o40), .val (.long o43), .second, .val (.long o46), .second, .val (.ref b48), .val (.int z64)] [(.int z64), (.int o67)]))
            by_cases c69 : o67 = z64
            · skip
              refine own_by (fun _ k => XS.icmpNo X66.here hx rfl (hb hby at_134) rfl (teq c69).2 k) ?_
              show own_Go p e below _ (T66.setTop (mkF m 137 #[.val (.int p0), .val (.int p1), .val (.long q2), .second, .val (.long q3), .second, .val (.long q4), .second, .val (.long q5), .second, .val (.int z8), .val (.int z17), .val (.long y27), .second, .val (.long y37), .second, .val (.int o40), .val (.long o43), .second, .val (.long o46), .second, .val (.ref b48), .val (.int z64)] []))
              refine own_by (fun _ k => XS.iconst X66.here hx rfl (hb hby at_137) k) ?_
              show own_Go p e below _ (T66.setTop (mkF m 138 #[.val (.int p0), .val (.int p1), .val (.long q2), .second, .val (.long q3), .second, .val (.long q4), .second, .val (.long q5), .second, .val (.int z8), .val (.int z17), .val (.long y27), .second, .val (.long y37), .second, .val (.int o40), .val (.long o43), .second, .val (.long o46), .second, .val (.ref b48), .val (.int z64)] [(.int (1 : Int32))]))
              refine own_by (fun _ k => XS.goto X66.here hx rfl (pc0 := 138) (pc' := 142) rfl (hb hby at_138) (by decide) (by decide) k) ?_
              show own_Go p e below _ (T66.setTop (mkF m 142 #[.val (.int p0), .val (.int p1), .val (.long q2), .second, .val (.long q3), .second, .val (.long q4), .second, .val (.long q5), .second, .val (.int z8), .val (.int z17), .val (.long y27), .second, .val (.long y37), .second, .val (.int o40), .val (.long o43), .second, .val (.long o46), .second, .val (.ref b48), .val (.int z64)] [(.int (1 : Int32))]))
              exact own_retN X66 hx (t := .boolean) Bd.returns (by simp) (hb hby at_142) hlk eq66 ⟨rfl, N66⟩ (by decide) (by decide)
            · skip
              refine own_by (fun _ k => XS.icmpYes X66.here hx rfl (pc0 := 134) (pc' := 141) rfl (hb hby at_134) rfl (feq c69).2 (by decide) (by decide) k) ?_
              show own_Go p e below _ (T66.setTop (mkF m 141 #[.val (.int p0), .val (.int p1), .val (.long q2), .second, .val (.long q3), .second, .val (.long q4), .second, .val (.long q5), .second, .val (.int z8), .val (.int z17), .val (.long y27), .second, .val (.long y37), .second, .val (.int o40), .val (.long o43), .second, .val (.long o46), .second, .val (.ref b48), .val (.int z64)] []))
              refine own_by (fun _ k => XS.iconst X66.here hx rfl (hb hby at_141) k) ?_
              show own_Go p e below _ (T66.setTop (mkF m 142 #[.val (.int p0), .val (.int p1), .val (.long q2), .second, .val (.long q3), .second, .val (.long q4), .second, .val (.long q5), .second, .val (.int z8), .val (.int z17), .val (.long y27), .second, .val (.long y37), .second, .val (.int o40), .val (.long o43), .second, .val (.long o46), .second, .val (.ref b48), .val (.int z64)] [(.int (0 : Int32))]))
              exact own_retN X66 hx (t := .boolean) Bd.returns (by simp) (hb hby at_142) hlk eq66 ⟨((ob_0_6 p0 p1 q2 q3 q4 q5 z8 z17 y27 y37 o40 o43 o46 z64 o67 hj9 hj18 hj28 hj38 hp41 hp44 hp47 hj65 hp68 c69)).elim, N66⟩ (by decide) (by decide)
          by_cases c56 : z8 = (0 : Int32)
          · skip
            refine own_by (fun _ k => XS.ifNo X49.here hx rfl (hb hby at_112) rfl ((if0 _ _).trans (teq c56).2) k) ?_
            show own_Go p e below _ (T49.setTop (mkF m 115 #[.val (.int p0), .val (.int p1), .val (.long q2), .second, .val (.long q3), .second, .val (.long q4), .second, .val (.long q5), .second, .val (.int z8), .val (.int z17), .val (.long y27), .second, .val (.long y37), .second, .val (.int o40), .val (.long o43), .second, .val (.long o46), .second, .val (.ref b48), .unset] []))
            refine own_by (fun _ k => XS.iload X49.here hx rfl (hb hby at_115) rfl k) ?_
            show own_Go p e below _ (T49.setTop (mkF m 117 #[.val (.int p0), .val (.int p1), .val (.long q2), .second, .val (.long q3), .second, .val (.long q4), .second, .val (.long q5), .second, .val (.int z8), .val (.int z17), .val (.long y27), .second, .val (.long y37), .second, .val (.int o40), .val (.long o43), .second, .val (.long o46), .second, .val (.ref b48), .unset] [(.int z17)]))
            by_cases c57 : z17 = (0 : Int32)
            · skip
              refine own_by (fun _ k => XS.ifYes X49.here hx rfl (pc0 := 117) (pc' := 124) rfl (hb hby at_117) rfl ((if0 _ _).trans (teq c57).1) (by decide) (by decide) k) ?_
              show own_Go p e below _ (T49.setTop (mkF m 124 #[.val (.int p0), .val (.int p1), .val (.long q2), .second, .val (.long q3), .second, .val (.long q4), .second, .val (.long q5), .second, .val (.int z8), .val (.int z17), .val (.long y27), .second, .val (.long y37), .second, .val (.int o40), .val (.long o43), .second, .val (.long o46), .second, .val (.ref b48), .unset] []))
              refine own_by (fun _ k => XS.iconst X49.here hx rfl (hb hby at_124) k) ?_
              show own_Go p e below _ (T49.setTop (mkF m 125 #[.val (.int p0), .val (.int p1), .val (.long q2), .second, .val (.long q3), .second, .val (.long q4), .second, .val (.long q5), .second, .val (.int z8), .val (.int z17), .val (.long y27), .second, .val (.long y37), .second, .val (.int o40), .val (.long o43), .second, .val (.long o46), .second, .val (.ref b48), .unset] [(.int (0 : Int32))]))
              exact J58 _ _ (0 : Int32) X49 rfl N49 (Or.inl ⟨c56, c57, rfl⟩)
            · skip
              refine own_by (fun _ k => XS.ifNo X49.here hx rfl (hb hby at_117) rfl ((if0 _ _).trans (feq c57).1) k) ?_
              show own_Go p e below _ (T49.setTop (mkF m 120 #[.val (.int p0), .val (.int p1), .val (.long q2), .second, .val (.long q3), .second, .val (.long q4), .second, .val (.long q5), .second, .val (.int z8), .val (.int z17), .val (.long y27), .second, .val (.long y37), .second, .val (.int o40), .val (.long o43), .second, .val (.long o46), .second, .val (.ref b48), .unset] []))
              refine own_by (fun _ k => XS.iconst X49.here hx rfl (hb hby at_120) k) ?_
              show own_Go p e below _ (T49.setTop (mkF m 121 #[.val (.int p0), .val (.int p1), .val (.long q2), .second, .val (.long q3), .second, .val (.long q4), .second, .val (.long q5), .second, .val (.int z8), .val (.int z17), .val (.long y27), .second, .val (.long y37), .second, .val (.int o40), .val (.long o43), .second, .val (.long o46), .second, .val (.ref b48), .unset] [(.int (1 : Int32))]))
              refine own_by (fun _ k => XS.goto X49.here hx rfl (pc0 := 121) (pc' := 125) rfl (hb hby at_121) (by decide) (by decide) k) ?_
              show own_Go p e below _ (T49.setTop (mkF m 125 #[.val (.int p0), .val (.int p1), .val (.long q2), .second, .val (.long q3), .second, .val (.long q4), .second, .val (.long q5), .second, .val (.int z8), .val (.int z17), .val (.long y27), .second, .val (.long y37), .second, .val (.int o40), .val (.long o43), .second, .val (.long o46), .second, .val (.ref b48), .unset] [(.int (1 : Int32))]))
              exact J58 _ _ (1 : Int32) X49 rfl N49 (Or.inr (Or.inl ⟨c56, c57, rfl⟩))
          · skip
            refine own_by (fun _ k => XS.ifYes X49.here hx rfl (pc0 := 112) (pc' := 120) rfl (hb hby at_112) rfl ((if0 _ _).trans (feq c56).2) (by decide) (by decide) k) ?_
            show own_Go p e below _ (T49.setTop (mkF m 120 #[.val (.int p0), .val (.int p1), .val (.long q2), .second, .val (.long q3), .second, .val (.long q4), .second, .val (.long q5), .second, .val (.int z8), .val (.int z17), .val (.long y27), .second, .val (.long y37), .second, .val (.int o40), .val (.long o43), .second, .val (.long o46), .second, .val (.ref b48), .unset] []))
            refine own_by (fun _ k => XS.iconst X49.here hx rfl (hb hby at_120) k) ?_
            show own_Go p e below _ (T49.setTop (mkF m 121 #[.val (.int p0), .val (.int p1), .val (.long q2), .second, .val (.long q3), .second, .val (.long q4), .second, .val (.long q5), .second, .val (.int z8), .val (.int z17), .val (.long y27), .second, .val (.long y37), .second, .val (.int o40), .val (.long o43), .second, .val (.long o46), .second, .val (.ref b48), .unset] [(.int (1 : Int32))]))
            refine own_by (fun _ k => XS.goto X49.here hx rfl (pc0 := 121) (pc' := 125) rfl (hb hby at_121) (by decide) (by decide) k) ?_
            show own_Go p e below _ (T49.setTop (mkF m 125 #[.val (.int p0), .val (.int p1), .val (.long q2), .second, .val (.long q3), .second, .val (.long q4), .second, .val (.long q5), .second, .val (.int z8), .val (.int z17), .val (.long y27), .second, .val (.long y37), .second, .val (.int o40), .val (.long o43), .second, .val (.long o46), .second, .val (.ref b48), .unset] [(.int (1 : Int32))]))
            exact J58 _ _ (1 : Int32) X49 rfl N49 (Or.inr (Or.inr (⟨c56, rfl⟩)))
        by_cases c29 : z17 = (0 : Int32)
        · skip
          refine own_by (fun _ k => XS.ifYes X24.here hx rfl (pc0 := 46) (pc' := 57) rfl (hb hby at_46) rfl ((if0 _ _).trans (teq c29).1) (by decide) (by decide) k) ?_
          show own_Go p e below _ (T22.setTop (mkF m 57 #[.val (.int p0), .val (.int p1), .val (.long q2), .second, .val (.long q3), .second, .val (.long q4), .second, .val (.long q5), .second, .val (.int z8), .val (.int z17), .val (.long y27), .second, .unset, .unset, .unset, .unset, .unset, .unset, .unset, .unset, .unset] []))
          refine own_by (fun t k => X24.ldc2Long hx hown (mvT hZ (hw _ (List.mem_of_getElem? (i := 0) rfl))) (g := (mkF m 57 #[.val (.int p0), .val (.int p1), .val (.long q2), .second, .val (.long q3), .second, .val (.long q4), .second, .val (.long q5), .second, .val (.int z8), .val (.int z17), .val (.long y27), .second, .unset, .unset, .unset, .unset, .unset, .unset, .unset, .unset, .unset] [])) rfl (hb hby at_57) _ k) ?_
          show own_Go p e below _ (T22.setTop (mkF m 60 #[.val (.int p0), .val (.int p1), .val (.long q2), .second, .val (.long q3), .second, .val (.long q4), .second, .val (.long q5), .second, .val (.int z8), .val (.int z17), .val (.long y27), .second, .unset, .unset, .unset, .unset, .unset, .unset, .unset, .unset, .unset] [(.long (9223372036854775807 : Int64))]))
          exact J31 _ _ (9223372036854775807 : Int64) X24 e25 N26 (Or.inl ⟨c29, rfl⟩)
        · skip
          refine own_by (fun _ k => XS.ifNo X24.here hx rfl (hb hby at_46) rfl ((if0 _ _).trans (feq c29).1) k) ?_
          show own_Go p e below _ (T22.setTop (mkF m 49 #[.val (.int p0), .val (.int p1), .val (.long q2), .second, .val (.long q3), .second, .val (.long q4), .second, .val (.long q5), .second, .val (.int z8), .val (.int z17), .val (.long y27), .second, .unset, .unset, .unset, .unset, .unset, .unset, .unset, .unset, .unset] []))
          refine own_by (fun _ k => XS.lload X24.here hx rfl (hb hby at_49) rfl k) ?_
          show own_Go p e below _ (T22.setTop (mkF m 51 #[.val (.int p0), .val (.int p1), .val (.long q2), .second, .val (.long q3), .second, .val (.long q4), .second, .val (.long q5), .second, .val (.int z8), .val (.int z17), .val (.long y27), .second, .unset, .unset, .unset, .unset, .unset, .unset, .unset, .unset, .unset] [(.long q5)]))
          obtain ⟨_, _, ⟨T30, L30, k30, n30⟩, -, X30, ⟨Lc30, hQ30, l30, y30, z30⟩, st30⟩ := Jvm.LawKit.callS X24 hx (y := (⟨"com/example/keelstream/keelstream/storage/LogLimitsHasFlushLimitPinLaw", "drawnLimit", "(J)J"⟩ : MethodName)) hown (mvT hZ (hw _ (List.mem_of_getElem? (i := 41) rfl))) (mvT hZ (hw _ (List.mem_of_getElem? (i := 42) rfl))) (mvT hZ (hw _ (List.mem_of_getElem? (i := 43) rfl))) (mvT hZ (hw _ (List.mem_of_getElem? (i := 44) rfl))) (by decide) (backOf (W := 0) (rm7 l Z A0 hw [] q5 h0 n0 Z0 ) hZ (hw _ (List.mem_of_getElem? (i := 44) rfl)) (hw _ (List.mem_of_getElem? (i := 43) rfl)) (by decide) (by decide)) (g := (mkF m 51 #[.val (.int p0), .val (.int p1), .val (.long q2), .second, .val (.long q3), .second, .val (.long q4), .second, .val (.long q5), .second, .val (.int z8), .val (.int z17), .val (.long y27), .second, .unset, .unset, .unset, .unset, .unset, .unset, .unset, .unset, .unset] [(.long q5)])) rfl (by rw [hml]; rfl) (argsL := [(.long q5)]) (rest := []) (lenOf pd_41 rfl) rfl (by show 2 * 0 + _ ≤ _; exact Nat.le_of_eq rfl) (hb hby at_51) (fun _ _ => ⟨rfl, e25, (by decide : 0 + 0 ≤ _), (by decide : 0 + 0 ≤ _)⟩)
          dsimp only [Pt.U, Pt.locs, Pt.cells, Pt.slots] at X30 l30 y30 z30 st30 hQ30
          subst l30 y30 z30
          obtain ⟨rfl, Nq30, eq30⟩ := hQ30
          have N30 := Fr.app N26 Nq30
          refine own_by st30 ?_
          show own_Go p e below _ (T30.setTop (mkF m 54 #[.val (.int p0), .val (.int p1), .val (.long q2), .second, .val (.long q3), .second, .val (.long q4), .second, .val (.long q5), .second, .val (.int z8), .val (.int z17), .val (.long y27), .second, .unset, .unset, .unset, .unset, .unset, .unset, .unset, .unset, .unset] [(.long (((q5 &&& (9223372036854775807 : Int64)) % (9223372036854775806 : Int64)) + (1 : Int64)))]))
          refine own_by (fun _ k => XS.goto X30.here hx rfl (pc0 := 54) (pc' := 60) rfl (hb hby at_54) (by decide) (by decide) k) ?_
          show own_Go p e below _ (T30.setTop (mkF m 60 #[.val (.int p0), .val (.int p1), .val (.long q2), .second, .val (.long q3), .second, .val (.long q4), .second, .val (.long q5), .second, .val (.int z8), .val (.int z17), .val (.long y27), .second, .unset, .unset, .unset, .unset, .unset, .unset, .unset, .unset, .unset] [(.long (((q5 &&& (9223372036854775807 : Int64)) % (9223372036854775806 : Int64)) + (1 : Int64)))]))
          exact J31 _ _ ((((q5 &&& (9223372036854775807 : Int64)) % (9223372036854775806 : Int64)) + (1 : Int64))) X30 eq30 N30 (Or.inr (⟨c29, rfl⟩))
      by_cases c19 : z8 = (0 : Int32)
      · skip
        refine own_by (fun _ k => XS.ifYes X14.here hx rfl (pc0 := 28) (pc' := 39) rfl (hb hby at_28) rfl ((if0 _ _).trans (teq c19).1) (by decide) (by decide) k) ?_
        show own_Go p e below _ (T12.setTop (mkF m 39 #[.val (.int p0), .val (.int p1), .val (.long q2), .second, .val (.long q3), .second, .val (.long q4), .second, .val (.long q5), .second, .val (.int z8), .val (.int z17), .unset, .unset, .unset, .unset, .unset, .unset, .unset, .unset, .unset, .unset, .unset] []))
        refine own_by (fun t k => X14.ldc2Long hx hown (mvT hZ (hw _ (List.mem_of_getElem? (i := 0) rfl))) (g := (mkF m 39 #[.val (.int p0), .val (.int p1), .val (.long q2), .second, .val (.long q3), .second, .val (.long q4), .second, .val (.long q5), .second, .val (.int z8), .val (.int z17), .unset, .unset, .unset, .unset, .unset, .unset, .unset, .unset, .unset, .unset, .unset] [])) rfl (hb hby at_39) _ k) ?_
        show own_Go p e below _ (T12.setTop (mkF m 42 #[.val (.int p0), .val (.int p1), .val (.long q2), .second, .val (.long q3), .second, .val (.long q4), .second, .val (.long q5), .second, .val (.int z8), .val (.int z17), .unset, .unset, .unset, .unset, .unset, .unset, .unset, .unset, .unset, .unset, .unset] [(.long (9223372036854775807 : Int64))]))
        exact J21 _ _ (9223372036854775807 : Int64) X14 e15 N16 (Or.inl ⟨c19, rfl⟩)
      · skip
        refine own_by (fun _ k => XS.ifNo X14.here hx rfl (hb hby at_28) rfl ((if0 _ _).trans (feq c19).1) k) ?_
        show own_Go p e below _ (T12.setTop (mkF m 31 #[.val (.int p0), .val (.int p1), .val (.long q2), .second, .val (.long q3), .second, .val (.long q4), .second, .val (.long q5), .second, .val (.int z8), .val (.int z17), .unset, .unset, .unset, .unset, .unset, .unset, .unset, .unset, .unset, .unset, .unset] []))
        refine own_by (fun _ k => XS.lload X14.here hx rfl (hb hby at_31) rfl k) ?_
        show own_Go p e below _ (T12.setTop (mkF m 33 #[.val (.int p0), .val (.int p1), .val (.long q2), .second, .val (.long q3), .second, .val (.long q4), .second, .val (.long q5), .second, .val (.int z8), .val (.int z17), .unset, .unset, .unset, .unset, .unset, .unset, .unset, .unset, .unset, .unset, .unset] [(.long q4)]))
        obtain ⟨_, _, ⟨T20, L20, k20, n20⟩, -, X20, ⟨Lc20, hQ20, l20, y20, z20⟩, st20⟩ := Jvm.LawKit.callS X14 hx (y := (⟨"com/example/keelstream/keelstream/storage/LogLimitsHasFlushLimitPinLaw", "drawnLimit", "(J)J"⟩ : MethodName)) hown (mvT hZ (hw _ (List.mem_of_getElem? (i := 41) rfl))) (mvT hZ (hw _ (List.mem_of_getElem? (i := 42) rfl))) (mvT hZ (hw _ (List.mem_of_getElem? (i := 43) rfl))) (mvT hZ (hw _ (List.mem_of_getElem? (i := 44) rfl))) (by decide) (backOf (W := 0) (rm7 l Z A0 hw [] q4 h0 n0 Z0 ) hZ (hw _ (List.mem_of_getElem? (i := 44) rfl)) (hw _ (List.mem_of_getElem? (i := 43) rfl)) (by decide) (by decide)) (g := (mkF m 33 #[.val (.int p0), .val (.int p1), .val (.long q2), .second, .val (.long q3), .second, .val (.long q4), .second, .val (.long q5), .second, .val (.int z8), .val (.int z17), .unset, .unset, .unset, .unset, .unset, .unset, .unset, .unset, .unset, .unset, .unset] [(.long q4)])) rfl (by rw [hml]; rfl) (argsL := [(.long q4)]) (rest := []) (lenOf pd_41 rfl) rfl (by show 2 * 0 + _ ≤ _; exact Nat.le_of_eq rfl) (hb hby at_33) (fun _ _ => ⟨rfl, e15, (by decide : 0 + 0 ≤ _), (by decide : 0 + 0 ≤ _)⟩)
        dsimp only [Pt.U, Pt.locs, Pt.cells, Pt.slots] at X20 l20 y20 z20 st20 hQ20
        subst l20 y20 z20
        obtain ⟨rfl, Nq20, eq20⟩ := hQ20
        have N20 := Fr.app N16 Nq20
        refine own_by st20 ?_
        show own_Go p e below _ (T20.setTop (mkF m 36 #[.val (.int p0), .val (.int p1), .val (.long q2), .second, .val (.long q3), .second, .val (.long q4), .second, .val (.long q5), .second, .val (.int z8), .val (.int z17), .unset, .unset, .unset, .unset, .unset, .unset, .unset, .unset, .unset, .unset, .unset] [(.long (((q4 &&& (9223372036854775807 : Int64)) % (9223372036854775806 : Int64)) + (1 : Int64)))]))
        refine own_by (fun _ k => XS.goto X20.here hx rfl (pc0 := 36) (pc' := 42) rfl (hb hby at_36) (by decide) (by decide) k) ?_
        show own_Go p e below _ (T20.setTop (mkF m 42 #[.val (.int p0), .val (.int p1), .val (.long q2), .second, .val (.long q3), .second, .val (.long q4), .second, .val (.long q5), .second, .val (.int z8), .val (.int z17), .unset, .unset, .unset, .unset, .unset, .unset, .unset, .unset, .unset, .unset, .unset] [(.long (((q4 &&& (9223372036854775807 : Int64)) % (9223372036854775806 : Int64)) + (1 : Int64)))]))
        exact J21 _ _ ((((q4 &&& (9223372036854775807 : Int64)) % (9223372036854775806 : Int64)) + (1 : Int64))) X20 eq20 N20 (Or.inr (⟨c19, rfl⟩))
    by_cases c10 : (p0 &&& (2 : Int32)) = (0 : Int32)
    · skip
      refine own_by (fun _ k => XS.ifYes X5.here hx rfl (pc0 := 16) (pc' := 23) rfl (hb hby at_16) rfl ((if0 _ _).trans (teq c10).1) (by decide) (by decide) k) ?_
      show own_Go p e below _ (T3.setTop (mkF m 23 #[.val (.int p0), .val (.int p1), .val (.long q2), .second, .val (.long q3), .second, .val (.long q4), .second, .val (.long q5), .second, .val (.int z8), .unset, .unset, .unset, .unset, .unset, .unset, .unset, .unset, .unset, .unset, .unset, .unset] []))
      refine own_by (fun _ k => XS.iconst X5.here hx rfl (hb hby at_23) k) ?_
      show own_Go p e below _ (T3.setTop (mkF m 24 #[.val (.int p0), .val (.int p1), .val (.long q2), .second, .val (.long q3), .second, .val (.long q4), .second, .val (.long q5), .second, .val (.int z8), .unset, .unset, .unset, .unset, .unset, .unset, .unset, .unset, .unset, .unset, .unset, .unset] [(.int (0 : Int32))]))
      exact J11 _ _ (0 : Int32) X5 e6 N7 (Or.inl ⟨c10, rfl⟩)
    · skip
      refine own_by (fun _ k => XS.ifNo X5.here hx rfl (hb hby at_16) rfl ((if0 _ _).trans (feq c10).1) k) ?_
      show own_Go p e below _ (T3.setTop (mkF m 19 #[.val (.int p0), .val (.int p1), .val (.long q2), .second, .val (.long q3), .second, .val (.long q4), .second, .val (.long q5), .second, .val (.int z8), .unset, .unset, .unset, .unset, .unset, .unset, .unset, .unset, .unset, .unset, .unset, .unset] []))
      refine own_by (fun _ k => XS.iconst X5.here hx rfl (hb hby at_19) k) ?_
      show own_Go p e below _ (T3.setTop (mkF m 20 #[.val (.int p0), .val (.int p1), .val (.long q2), .second, .val (.long q3), .second, .val (.long q4), .second, .val (.long q5), .second, .val (.int z8), .unset, .unset, .unset, .unset, .unset, .unset, .unset, .unset, .unset, .unset, .unset, .unset] [(.int (1 : Int32))]))
      refine own_by (fun _ k => XS.goto X5.here hx rfl (pc0 := 20) (pc' := 24) rfl (hb hby at_20) (by decide) (by decide) k) ?_
      show own_Go p e below _ (T3.setTop (mkF m 24 #[.val (.int p0), .val (.int p1), .val (.long q2), .second, .val (.long q3), .second, .val (.long q4), .second, .val (.long q5), .second, .val (.int z8), .unset, .unset, .unset, .unset, .unset, .unset, .unset, .unset, .unset, .unset, .unset, .unset] [(.int (1 : Int32))]))
      exact J11 _ _ (1 : Int32) X5 e6 N7 (Or.inr (⟨c10, rfl⟩))
  by_cases c1 : (p0 &&& (1 : Int32)) = (0 : Int32)
  · skip
    refine own_by (fun _ k => XS.ifYes X0.here hx rfl (pc0 := 3) (pc' := 10) rfl (hb hby at_3) rfl ((if0 _ _).trans (teq c1).1) (by decide) (by decide) k) ?_
    show own_Go p e below _ (s₁.setTop (mkF m 10 #[.val (.int p0), .val (.int p1), .val (.long q2), .second, .val (.long q3), .second, .val (.long q4), .second, .val (.long q5), .second, .unset, .unset, .unset, .unset, .unset, .unset, .unset, .unset, .unset, .unset, .unset, .unset, .unset] []))
    refine own_by (fun _ k => XS.iconst X0.here hx rfl (hb hby at_10) k) ?_
    show own_Go p e below _ (s₁.setTop (mkF m 11 #[.val (.int p0), .val (.int p1), .val (.long q2), .second, .val (.long q3), .second, .val (.long q4), .second, .val (.long q5), .second, .unset, .unset, .unset, .unset, .unset, .unset, .unset, .unset, .unset, .unset, .unset, .unset, .unset] [(.int (0 : Int32))]))
    exact J2 _ _ (0 : Int32) X0 e0 N0 (Or.inl ⟨c1, rfl⟩)
  · skip
    refine own_by (fun _ k => XS.ifNo X0.here hx rfl (hb hby at_3) rfl ((if0 _ _).trans (feq c1).1) k) ?_
    show own_Go p e below _ (s₁.setTop (mkF m 6 #[.val (.int p0), .val (.int p1), .val (.long q2), .second, .val (.long q3), .second, .val (.long q4), .second, .val (.long q5), .second, .unset, .unset, .unset, .unset, .unset, .unset, .unset, .unset, .unset, .unset, .unset, .unset, .unset] []))
    refine own_by (fun _ k => XS.iconst X0.here hx rfl (hb hby at_6) k) ?_
    show own_Go p e below _ (s₁.setTop (mkF m 7 #[.val (.int p0), .val (.int p1), .val (.long q2), .second, .val (.long q3), .second, .val (.long q4), .second, .val (.long q5), .second, .unset, .unset, .unset, .unset, .unset, .unset, .unset, .unset, .unset, .unset, .unset, .unset, .unset] [(.int (1 : Int32))]))
    refine own_by (fun _ k => XS.goto X0.here hx rfl (pc0 := 7) (pc' := 11) rfl (hb hby at_7) (by decide) (by decide) k) ?_
    show own_Go p e below _ (s₁.setTop (mkF m 11 #[.val (.int p0), .val (.int p1), .val (.long q2), .second, .val (.long q3), .second, .val (.long q4), .second, .val (.long q5), .second, .unset, .unset, .unset, .unset, .unset, .unset, .unset, .unset, .unset, .unset, .unset, .unset, .unset] [(.int (1 : Int32))]))
    exact J2 _ _ (1 : Int32) X0 e0 N0 (Or.inr (⟨c1, rfl⟩))
set_option maxRecDepth 65536 in
set_option maxHeartbeats 40000000 in
theorem comes_1 {Post : Tables → Env → Array Value → State → Outcome → State → Prop} (hpost : ∀ tb e args s v u, (limb_1_1.after args s (.returned v) u = true ∧ limb_1_2.after args s (.returned v) u = true ∧ True) → FrameEnd s (.returned v) u (Jvm.fieldLocs frame_1_writes args s ++ Jvm.arrayLocs frame_1_arrays args s ++ Jvm.staticLocs frame_1_statics s) 16 128 → Post tb e args s (.returned v) u) :
    ArmFor flags0 classFile x code maxLocals ret World_1 tables_1 room_1 Calls_1 rest_1 Pre_1 Post := by
  intro l hfl _ _ p e ha hc hk s m args below hf hA hF happ hP
  obtain ⟨hcalls, hrest, hpre⟩ := hP
  obtain ⟨-, -, -, hnamed, -, -, -, hat⟩ := (Spec.applies_iff hf).mp happ
  obtain ⟨hg, hn⟩ := and_e (Cond.before_iff.mp (show (Jvm.Cond.and given_1 narrow_1).before args s = true from hpre))
  obtain ⟨g0, r0⟩ := and_e hg
  obtain ⟨ga0, r1⟩ := and_e r0
  obtain ⟨ga1, r2⟩ := and_e r1
  obtain ⟨ga2, r3⟩ := and_e r2
  obtain ⟨ga3, r4⟩ := and_e r3
  obtain ⟨ga4, r5⟩ := and_e r4
  obtain ⟨w0, w1, w2, w3, w4, w5, rfl⟩ : ∃ w0 w1 w2 w3 w4 w5 : Value, args = #[w0, w1, w2, w3, w4, w5] := by
    have hs : args.size = 6 := by simpa [Cond.value, given_1] using g0
    obtain ⟨L⟩ := args
    match L, hs with
    | [w0, w1, w2, w3, w4, w5], _ => exact ⟨w0, w1, w2, w3, w4, w5, rfl⟩
  have hw := fun d (hd : d ∈ tables_1) => atoms_spec (ws := Jvm.Cond.code x code maxLocals ret :: tables_1) hat d (List.mem_cons_of_mem _ hd)
  have hfit : Fit s := fun {y c} hc i hi => by
    obtain ⟨ha, rfl⟩ := Array.getElem?_eq_some_iff.mp hc
    have q := List.all_eq_true.mp ((Array.all_eq_true_iff_forall_mem.mp hF) _ (Array.getElem_mem ha)) i (List.mem_range.mpr hi)
    simpa [Array.getElem?_eq_getElem hi] using q
  obtain ⟨i0, ei0⟩ := is_v ga0
  obtain rfl : w0 = (.int i0) := Option.some.inj ei0
  obtain ⟨i1, ei1⟩ := is_v ga1
  obtain rfl : w1 = (.int i1) := Option.some.inj ei1
  obtain ⟨i2, ei2⟩ := isL_v ga2
  obtain rfl : w2 = (.long i2) := Option.some.inj ei2
  obtain ⟨i3, ei3⟩ := isL_v ga3
  obtain rfl : w3 = (.long i3) := Option.some.inj ei3
  obtain ⟨i4, ei4⟩ := isL_v ga4
  obtain rfl : w4 = (.long i4) := Option.some.inj ei4
  obtain ⟨i5, ei5⟩ := isL_v r5
  obtain rfl : w5 = (.long i5) := Option.some.inj ei5
  obtain ⟨n, o, h1, h2, h3, _, L, rfl, ⟨rfl, N⟩, hq⟩ := rm0 l s _ hw tables_1 i0 i1 i2 i3 i4 i5  s.heap s.heap.size (Nat.le_refl _)  p e ha hc hk s m _ below hf ((Spec.applies_iff_loose hf).mp happ).1 ⟨rfl, State.Warmed39.refl s, rfl⟩ trivial
  refine ⟨n, _, h1, h2, h3, hpost _ _ _ _ _ _ ⟨Cond.after_iff.mpr rfl, Cond.after_iff.mpr (eq_i res_at (Term.int_eval (1)) rfl), trivial⟩ ⟨hq.1, hq.2.1, (hq.2.2.sift fun y hy => Or.inr (N y hy)).mono (by decide) (by decide)⟩⟩
theorem main_1_1 : Claimed_1_1 := comes_1 fun _ _ _ _ _ _ h hF => ⟨h.1, hF⟩
theorem main_1_2 : Claimed_1_2 := comes_1 fun _ _ _ _ _ _ h hF => ⟨h.2.1, hF⟩
end Jvm.Pilot.@@N@@
namespace Jvm.Pilot.@@N@@
open Jvm Jvm.ClassFile Sem Op Lib Jvm.Free Jvm.Stand Jvm.Pilot.@@N@@.Jvm.D
/-! MADE BY PROGRAM (witnessworld.py) out of the Statement's table words and the real class files: 11 classes; the members and pool entries that the words name. The judged class is class 1, her method 2. -/
namespace start1
open Jvm.ClassFile
def u (s : String) : CpInfo := .utf8 (stringToUtf16 s)
/-- a pool by its gaps: so many unusable entries, then the entry; so many at the end -/
def gap : Nat → List CpInfo → List CpInfo
  | 0, r => r
  | n + 1, r => .unusable :: gap n r
def poolList (es : List (Nat × CpInfo)) (last : Nat) : List CpInfo := es.foldr (fun e r => gap e.1 (e.2 :: r)) (gap last [])
def pool (es : List (Nat × CpInfo)) (last : Nat) : Array CpInfo := ⟨poolList es last⟩
def fileOf (pool : Array CpInfo) (this : Nat) (attrs : Array Attribute := #[]) (ms : Array MethodInfo := #[]) (fl : Nat := 33) (sup : Nat := 0) (ifs : Array Nat := #[]) (fds : Array FieldInfo := #[]) : ClassFile where
  minorVersion := 0
  majorVersion := 65
  constantPool := pool
  accessFlags := fl
  thisClass := this
  superClass := sup
  interfaces := ifs
  fields := fds
  methods := ms
  attributes := attrs
def plain (name : String) (sup : Option ClassId) : Class where
  name := name
  kind := .ordinary
  loader := none
  accessFlags := 33
  super := sup
  interfaces := #[]
  cf := none
  fields := #[]
  methods := #[]
  instanceTypes := #[]
  staticTypes := #[]
  resolved := #[]
  callSites := []
  init := .initialized
  statics := none
  mirror := none

def pool0 : Array CpInfo := pool [(5, u "<init>"), (0, u "()V"), (1, .class_ 10), (1, u "java/lang/Object")] 113

def k0c0 : Code := { maxStack := 0, maxLocals := 1, code := object_method_1_code, exceptionTable := #[], attributes := #[] }
def k0m0 : Method := { name := "<init>", desc := "()V", sig := { parameters := [], returnType := none }, accessFlags := 1, code := some k0c0 }
/-- java/lang/Object -/
def k0 : Class := { plain "java/lang/Object" none with
  accessFlags := 33
  interfaces := #[]
  cf := some (fileOf pool0 8 #[] #[{ accessFlags := 1, nameIndex := 5, descriptorIndex := 6, attributes := #[] }] 33 0 #[] #[])
  fields := #[]
  methods := #[k0m0]
  instanceTypes := #[]
  staticTypes := #[]
  resolved := Array.replicate 124 none
  statics := none }

def pool1 : Array CpInfo := pool [(2, .class_ 4), (1, u "java/lang/Object"), (0, u "<init>"), (0, u "()V"), (2, .long 9223372036854775807), (1, .long 9223372036854775806), (1, .methodref 14 15), (0, .class_ 16), (0, .nameAndType 17 18), (0, u "com/example/keelstream/keelstream/storage/LogLimitsHasFlushLimitPinLaw"), (0, u "drawnLimit"), (0, u "(J)J"), (0, .class_ 20), (0, u "com/example/keelstream/keelstream/storage/LogLimits"), (0, .integer 2147483647), (0, .methodref 23 24), (0, .class_ 25), (0, .nameAndType 26 27), (0, u "java/lang/Math"), (0, u "max"), (0, u "(II)I"), (0, .long 18446744073709551615), (1, .methodref 23 31), (0, .nameAndType 26 32), (0, u "(JJ)J"), (0, .methodref 19 34), (0, .nameAndType 5 35), (0, u "(IJJJJ)V"), (0, .methodref 19 37), (0, .nameAndType 38 39), (0, u "hasFlushLimit"), (0, u "()Z"), (2, u "law"), (0, u "(IIJJJJ)Z")] 3

def k1m0 : Method := { name := "<init>", desc := "()V", sig := { parameters := [], returnType := none }, accessFlags := 2, code := none }
def k1c1 : Code := { maxStack := 4, maxLocals := 2, code := method_2_code, exceptionTable := #[], attributes := #[] }
def k1m1 : Method := { name := "drawnLimit", desc := "(J)J", sig := { parameters := [.long], returnType := some .long }, accessFlags := 10, code := some k1c1 }
def k1c2 : Code := { maxStack := 11, maxLocals := 23, code := code, exceptionTable := #[], attributes := #[] }
def k1m2 : Method := { name := "law", desc := "(IIJJJJ)Z", sig := { parameters := [.int, .int, .long, .long, .long, .long], returnType := some .boolean }, accessFlags := 9, code := some k1c2 }
/-- com/example/keelstream/keelstream/storage/LogLimitsHasFlushLimitPinLaw -/
def k1 : Class := { plain "com/example/keelstream/keelstream/storage/LogLimitsHasFlushLimitPinLaw" (some 0) with
  accessFlags := 49
  interfaces := #[]
  cf := some (fileOf pool1 14 #[] #[{ accessFlags := 2, nameIndex := 5, descriptorIndex := 6, attributes := #[] }, { accessFlags := 10, nameIndex := 17, descriptorIndex := 18, attributes := #[] }, { accessFlags := 9, nameIndex := 42, descriptorIndex := 43, attributes := #[] }] 49 2 #[] #[])
  fields := #[]
  methods := #[k1m0, k1m1, k1m2]
  instanceTypes := #[]
  staticTypes := #[]
  resolved := Array.replicate 47 none
  statics := none }

def pool2 : Array CpInfo := pool [(1, .class_ 2), (0, u "java/lang/Math"), (1, .class_ 6), (1, u "java/lang/Object"), (0, u "<init>"), (0, u "()V"), (89, .class_ 100), (1, u "java/lang/Math$RandomNumberGeneratorHolder"), (20, u "(JJ)J"), (50, u "negativeZeroFloatBits"), (0, u "J"), (2, u "negativeZeroDoubleBits"), (21, u "max"), (46, u "$assertionsDisabled"), (0, u "Z"), (88, u "(II)I"), (2, u "twoToTheDoubleScaleDown"), (0, u "D"), (4, u "twoToTheDoubleScaleUp"), (9, u "E"), (3, u "PI"), (2, u "TAU"), (2, u "DEGREES_TO_RADIANS"), (0, u "RADIANS_TO_DEGREES")] 94

def k2m0 : Method := { name := "<init>", desc := "()V", sig := { parameters := [], returnType := none }, accessFlags := 2, code := none }
def k2c1 : Code := { maxStack := 2, maxLocals := 2, code := jdk_29_method_65_code, exceptionTable := #[], attributes := #[] }
def k2m1 : Method := { name := "max", desc := "(II)I", sig := { parameters := [.int, .int], returnType := some .int }, accessFlags := 9, code := some k2c1 }
def k2c2 : Code := { maxStack := 4, maxLocals := 4, code := jdk_29_method_66_code, exceptionTable := #[], attributes := #[] }
def k2m2 : Method := { name := "max", desc := "(JJ)J", sig := { parameters := [.long, .long], returnType := some .long }, accessFlags := 9, code := some k2c2 }
/-- java/lang/Math -/
def k2 : Class := { plain "java/lang/Math" (some 0) with
  accessFlags := 49
  interfaces := #[]
  cf := some (fileOf pool2 1 #[.nestMembers #[98]] #[{ accessFlags := 2, nameIndex := 7, descriptorIndex := 8, attributes := #[] }, { accessFlags := 9, nameIndex := 198, descriptorIndex := 335, attributes := #[] }, { accessFlags := 9, nameIndex := 198, descriptorIndex := 121, attributes := #[] }] 49 4 #[] #[{ accessFlags := 25, nameIndex := 354, descriptorIndex := 339, attributes := #[] }, { accessFlags := 25, nameIndex := 358, descriptorIndex := 339, attributes := #[] }, { accessFlags := 25, nameIndex := 361, descriptorIndex := 339, attributes := #[] }, { accessFlags := 26, nameIndex := 364, descriptorIndex := 339, attributes := #[] }, { accessFlags := 26, nameIndex := 365, descriptorIndex := 339, attributes := #[] }, { accessFlags := 26, nameIndex := 172, descriptorIndex := 173, attributes := #[] }, { accessFlags := 26, nameIndex := 176, descriptorIndex := 173, attributes := #[] }, { accessFlags := 8, nameIndex := 344, descriptorIndex := 339, attributes := #[] }, { accessFlags := 8, nameIndex := 338, descriptorIndex := 339, attributes := #[] }, { accessFlags := 4120, nameIndex := 245, descriptorIndex := 246, attributes := #[] }])
  fields := #[{ name := "E", type := .double, accessFlags := 25, slot := 0, constantValue := 0 }, { name := "PI", type := .double, accessFlags := 25, slot := 1, constantValue := 0 }, { name := "TAU", type := .double, accessFlags := 25, slot := 2, constantValue := 0 }, { name := "DEGREES_TO_RADIANS", type := .double, accessFlags := 26, slot := 3, constantValue := 0 }, { name := "RADIANS_TO_DEGREES", type := .double, accessFlags := 26, slot := 4, constantValue := 0 }, { name := "negativeZeroFloatBits", type := .long, accessFlags := 26, slot := 5, constantValue := 0 }, { name := "negativeZeroDoubleBits", type := .long, accessFlags := 26, slot := 6, constantValue := 0 }, { name := "twoToTheDoubleScaleUp", type := .double, accessFlags := 8, slot := 7, constantValue := 0 }, { name := "twoToTheDoubleScaleDown", type := .double, accessFlags := 8, slot := 8, constantValue := 0 }, { name := "$assertionsDisabled", type := .boolean, accessFlags := 4120, slot := 9, constantValue := 0 }]
  methods := #[k2m0, k2m1, k2m2]
  instanceTypes := #[]
  staticTypes := #[.double, .double, .double, .double, .double, .long, .long, .double, .double, .boolean]
  resolved := Array.replicate 460 none
  statics := none }

def pool3 : Array CpInfo := pool [(1, .methodref 2 3), (0, .class_ 4), (0, .nameAndType 5 6), (0, u "java/lang/Object"), (0, u "<init>"), (0, u "()V"), (0, .class_ 8), (0, u "java/lang/Record")] 13

def k3c0 : Code := { maxStack := 1, maxLocals := 1, code := jdk_30_method_1_code, exceptionTable := #[], attributes := #[] }
def k3m0 : Method := { name := "<init>", desc := "()V", sig := { parameters := [], returnType := none }, accessFlags := 4, code := some k3c0 }
/-- java/lang/Record -/
def k3 : Class := { plain "java/lang/Record" (some 0) with
  accessFlags := 1057
  interfaces := #[]
  cf := some (fileOf pool3 7 #[] #[{ accessFlags := 4, nameIndex := 5, descriptorIndex := 6, attributes := #[] }] 1057 2 #[] #[])
  fields := #[]
  methods := #[k3m0]
  instanceTypes := #[]
  staticTypes := #[]
  resolved := Array.replicate 22 none
  statics := none }

def pool4 : Array CpInfo := pool [(3, .methodref 4 5), (0, .class_ 6), (0, .nameAndType 7 8), (0, u "java/lang/Record"), (0, u "<init>"), (0, u "()V"), (0, .class_ 10), (0, u "com/example/keelstream/keelstream/storage/LogLimits"), (0, .long 18446744073709551615), (10, .fieldref 9 23), (0, .nameAndType 24 25), (0, u "segmentBytes"), (0, u "I"), (0, .fieldref 9 27), (0, .nameAndType 28 29), (0, u "retentionBytes"), (0, u "J"), (0, .fieldref 9 31), (0, .nameAndType 32 29), (0, u "retentionMs"), (0, .fieldref 9 34), (0, .nameAndType 35 29), (0, u "flushMessages"), (0, .fieldref 9 37), (0, .nameAndType 38 29), (0, u "flushMs"), (0, .long 9223372036854775807), (13, u "UNLIMITED"), (1, u "NEVER"), (0, u "(IJJJJ)V"), (4, u "hasFlushLimit"), (0, u "()Z")] 36

def k4c0 : Code := { maxStack := 11, maxLocals := 10, code := prog_75_method_1_code, exceptionTable := #[], attributes := #[] }
def k4m0 : Method := { name := "<init>", desc := "(IJJJJ)V", sig := { parameters := [.int, .long, .long, .long, .long], returnType := none }, accessFlags := 1, code := some k4c0 }
def k4c1 : Code := { maxStack := 4, maxLocals := 1, code := prog_75_method_2_code, exceptionTable := #[], attributes := #[] }
def k4m1 : Method := { name := "hasFlushLimit", desc := "()Z", sig := { parameters := [], returnType := some .boolean }, accessFlags := 1, code := some k4c1 }
/-- com/example/keelstream/keelstream/storage/LogLimits -/
def k4 : Class := { plain "com/example/keelstream/keelstream/storage/LogLimits" (some 3) with
  accessFlags := 49
  interfaces := #[]
  cf := some (fileOf pool4 9 #[] #[{ accessFlags := 1, nameIndex := 7, descriptorIndex := 56, attributes := #[] }, { accessFlags := 1, nameIndex := 61, descriptorIndex := 62, attributes := #[] }] 49 4 #[] #[{ accessFlags := 18, nameIndex := 24, descriptorIndex := 25, attributes := #[] }, { accessFlags := 18, nameIndex := 28, descriptorIndex := 29, attributes := #[] }, { accessFlags := 18, nameIndex := 32, descriptorIndex := 29, attributes := #[] }, { accessFlags := 18, nameIndex := 35, descriptorIndex := 29, attributes := #[] }, { accessFlags := 18, nameIndex := 38, descriptorIndex := 29, attributes := #[] }, { accessFlags := 25, nameIndex := 53, descriptorIndex := 29, attributes := #[] }, { accessFlags := 25, nameIndex := 55, descriptorIndex := 29, attributes := #[] }])
  fields := #[{ name := "segmentBytes", type := .int, accessFlags := 18, slot := 0, constantValue := 0 }, { name := "retentionBytes", type := .long, accessFlags := 18, slot := 1, constantValue := 0 }, { name := "retentionMs", type := .long, accessFlags := 18, slot := 2, constantValue := 0 }, { name := "flushMessages", type := .long, accessFlags := 18, slot := 3, constantValue := 0 }, { name := "flushMs", type := .long, accessFlags := 18, slot := 4, constantValue := 0 }, { name := "UNLIMITED", type := .long, accessFlags := 25, slot := 0, constantValue := 0 }, { name := "NEVER", type := .long, accessFlags := 25, slot := 1, constantValue := 0 }]
  methods := #[k4m0, k4m1]
  instanceTypes := #[.int, .long, .long, .long, .long]
  staticTypes := #[.long, .long]
  resolved := Array.replicate 99 none
  statics := none }

def pool5 : Array CpInfo := pool [(1, u "java/lang/Cloneable"), (0, .class_ 1), (0, u "java/lang/Object"), (0, .class_ 3)] 3

/-- java/lang/Cloneable -/
def k5 : Class := { plain "java/lang/Cloneable" (some 0) with
  accessFlags := 1537
  interfaces := #[]
  cf := some (fileOf pool5 2 #[] #[] 1537 4 #[] #[])
  fields := #[]
  methods := #[]
  instanceTypes := #[]
  staticTypes := #[]
  resolved := Array.replicate 8 none
  statics := none }

def pool6 : Array CpInfo := pool [(1, u "java/io/Serializable"), (0, .class_ 1), (0, u "java/lang/Object"), (0, .class_ 3)] 3

/-- java/io/Serializable -/
def k6 : Class := { plain "java/io/Serializable" (some 0) with
  accessFlags := 1537
  interfaces := #[]
  cf := some (fileOf pool6 2 #[] #[] 1537 4 #[] #[])
  fields := #[]
  methods := #[]
  instanceTypes := #[]
  staticTypes := #[]
  resolved := Array.replicate 8 none
  statics := none }

/-- the primitive byte -/
def k7 : Class := { plain "byte" none with kind := .primitive 'B', accessFlags := 0x411 }
/-- [B -/
def k8 : Class := { plain "[B" (some 0) with kind := .array 7 .byte, interfaces := #[5, 6], accessFlags := 1041 }

/-- the primitive int -/
def k9 : Class := { plain "int" none with kind := .primitive 'I', accessFlags := 0x411 }
/-- [I -/
def k10 : Class := { plain "[I" (some 0) with kind := .array 9 .int, interfaces := #[5, 6], accessFlags := 1041 }

def heap : Heap := #[]
def classes : Array Class := #[k0, k1, k2, k3, k4, k5, k6, k7, k8, k9, k10]
def interned : List (Array UInt16 × Addr) := []
def slotsUsed : Nat := 0
def theMethod : MethodId := ⟨1, 2⟩
def args0 : Array Value := #[.int 5, .int 3, .long 7, .long 7, .long 7, .long 7]
def aboutOver (below : List Frame) : State where
  vm := { classes := classes, interned := interned.toArray }
  heap := heap
  slotsUsed := slotsUsed
  threads := #[{ frames := .invoking theMethod args0 :: below }]
def below0 : List Frame := [.native { method := ⟨0, 0⟩, args := #[] }]
def about1 : State := aboutOver below0
def p0 : Program := .bare "" "" ""
def e0 : Env := launch0.env 0 0 0
theorem w_frames : about1.frames = Frame.invoking theMethod args0 :: below0 := rfl
set_option maxRecDepth 65536 in
theorem w_args : argsFit about1.vm theMethod args0 = true := by decide +kernel
set_option maxRecDepth 65536 in
theorem w_heap : heapFits about1 = true := by decide +kernel
set_option maxRecDepth 65536 in
theorem w_runnable : about1.curStatus? = some .runnable := by decide +kernel
set_option maxRecDepth 65536 in
theorem w_alone : about1.alone = true := by decide +kernel
set_option maxRecDepth 65536 in
theorem w_named : about1.methodNamed? x = some theMethod := by decide +kernel
set_option maxRecDepth 65536 in
theorem w_hears : about1.hears theMethod below0 = true := by decide +kernel
set_option maxRecDepth 65536 in
theorem w_ripe : about1.ripe theMethod args0 below0 = true := by decide +kernel
theorem w_running : about1.status = .running := rfl
set_option maxRecDepth 65536 in
theorem w_room : about1.hasRoom e0.platform room_1 = true :=
  launch0.hasRoom_least _ room_1 (by decide +kernel) (by decide +kernel) (by decide +kernel) (by decide +kernel) (by decide +kernel) (by decide +kernel)
theorem allAtoms_all (ts : List Jvm.Cond) (a : Array Jvm.Value) (st : Jvm.State) : (allAtoms ts).before a st = ts.all (fun c => c.before a st) := by
  induction ts with
  | nil => rfl
  | cons c t ih =>
    show (Jvm.Cond.and c (allAtoms t)).before a st = _
    rw [Jvm.Cond.before_and, ih, List.all_cons]
def words1 : List Jvm.Cond := Jvm.Cond.code x code maxLocals ret :: tables_1
/-- a 'code' word, met by the world's own term for the bytes: nothing is compared byte by byte -/
theorem code_word {y : MethodName} {bytes : ByteArray} {mx : Nat} {rt : Option FieldType} {a : Array Value} {s : State} {m : MethodId} {meth : Method} {c : Code} (h1 : s.methodNamed? y = some m) (h2 : s.vm.method? m = some meth) (h3 : meth.code = some c) (h4 : c.code = bytes)
    (h5 : (c.maxLocals == mx && c.exceptionTable.isEmpty && decide (c.maxStack ≤ mostOperands) && decide (meth.sig.returnType = rt) && !meth.locks && decide (parseMethodDescriptor y.desc = some meth.sig)) = true) : (Jvm.Cond.code y bytes mx rt).before a s = true := by
  simp only [Bool.and_eq_true, beq_iff_eq, Bool.not_eq_true', decide_eq_true_eq] at h5
  obtain ⟨⟨⟨⟨⟨g1, g2⟩, g3⟩, g4⟩, g5⟩, g6⟩ := h5
  simp [Cond.before, Cond.holds, Cond.value, h1, h2, h3, h4, g1, g2, g3, g4, g5, g6]
def isCode : Jvm.Cond → Bool
  | .code _ _ _ _ => true
  | _ => false
theorem all_split {L : List Jvm.Cond} {P : Jvm.Cond → Bool} (h1 : L.all (fun c => isCode c || P c) = true) (h2 : ∀ c ∈ L.filter isCode, P c = true) : L.all P = true := by
  refine List.all_eq_true.mpr fun c hc => ?_
  have h := List.all_eq_true.mp h1 c hc
  rcases Bool.eq_false_or_eq_true (isCode c) with hi | hi
  · exact h2 c (List.mem_filter.mpr ⟨hc, hi⟩)
  · simpa [hi] using h
set_option maxRecDepth 65536 in
theorem w_c0 : (Jvm.Cond.code x code maxLocals ret).before args0 about1 = true := code_word (m := ⟨1, 2⟩) (meth := k1m2) (c := k1c2) (by decide +kernel) rfl rfl rfl (by decide +kernel)
set_option maxRecDepth 65536 in
theorem w_c1 : (Jvm.Cond.code ({ cls := "java/lang/Math", name := "max", desc := "(II)I" } : Jvm.MethodName) jdk_29_method_65_code (2 : Nat) (Option.some Jvm.ClassFile.FieldType.int)).before args0 about1 = true := code_word (m := ⟨2, 1⟩) (meth := k2m1) (c := k2c1) (by decide +kernel) rfl rfl rfl (by decide +kernel)
set_option maxRecDepth 65536 in
theorem w_c2 : (Jvm.Cond.code ({ cls := "java/lang/Math", name := "max", desc := "(JJ)J" } : Jvm.MethodName) jdk_29_method_66_code (4 : Nat) (Option.some Jvm.ClassFile.FieldType.long)).before args0 about1 = true := code_word (m := ⟨2, 2⟩) (meth := k2m2) (c := k2c2) (by decide +kernel) rfl rfl rfl (by decide +kernel)
set_option maxRecDepth 65536 in
theorem w_c3 : (Jvm.Cond.code ({ cls := "com/example/keelstream/keelstream/storage/LogLimits", name := "<init>", desc := "(IJJJJ)V" } : Jvm.MethodName) prog_75_method_1_code (10 : Nat) (Option.none : Option Jvm.ClassFile.FieldType)).before args0 about1 = true := code_word (m := ⟨4, 0⟩) (meth := k4m0) (c := k4c0) (by decide +kernel) rfl rfl rfl (by decide +kernel)
set_option maxRecDepth 65536 in
theorem w_c4 : (Jvm.Cond.code ({ cls := "java/lang/Record", name := "<init>", desc := "()V" } : Jvm.MethodName) jdk_30_method_1_code (1 : Nat) (Option.none : Option Jvm.ClassFile.FieldType)).before args0 about1 = true := code_word (m := ⟨3, 0⟩) (meth := k3m0) (c := k3c0) (by decide +kernel) rfl rfl rfl (by decide +kernel)
set_option maxRecDepth 65536 in
theorem w_c5 : (Jvm.Cond.code ({ cls := "java/lang/Object", name := "<init>", desc := "()V" } : Jvm.MethodName) object_method_1_code (1 : Nat) (Option.none : Option Jvm.ClassFile.FieldType)).before args0 about1 = true := code_word (m := ⟨0, 0⟩) (meth := k0m0) (c := k0c0) (by decide +kernel) rfl rfl rfl (by decide +kernel)
set_option maxRecDepth 65536 in
theorem w_c6 : (Jvm.Cond.code ({ cls := "com/example/keelstream/keelstream/storage/LogLimits", name := "hasFlushLimit", desc := "()Z" } : Jvm.MethodName) prog_75_method_2_code (1 : Nat) (Option.some Jvm.ClassFile.FieldType.boolean)).before args0 about1 = true := code_word (m := ⟨4, 1⟩) (meth := k4m1) (c := k4c1) (by decide +kernel) rfl rfl rfl (by decide +kernel)
set_option maxRecDepth 65536 in
theorem w_c7 : (Jvm.Cond.code ({ cls := "com/example/keelstream/keelstream/storage/LogLimitsHasFlushLimitPinLaw", name := "drawnLimit", desc := "(J)J" } : Jvm.MethodName) method_2_code (2 : Nat) (Option.some Jvm.ClassFile.FieldType.long)).before args0 about1 = true := code_word (m := ⟨1, 1⟩) (meth := k1m1) (c := k1c1) (by decide +kernel) rfl rfl rfl (by decide +kernel)
def codes1 : List Jvm.Cond := [Jvm.Cond.code x code maxLocals ret, Jvm.Cond.code ({ cls := "java/lang/Math", name := "max", desc := "(II)I" } : Jvm.MethodName) jdk_29_method_65_code (2 : Nat) (Option.some Jvm.ClassFile.FieldType.int), Jvm.Cond.code ({ cls := "java/lang/Math", name := "max", desc := "(JJ)J" } : Jvm.MethodName) jdk_29_method_66_code (4 : Nat) (Option.some Jvm.ClassFile.FieldType.long), Jvm.Cond.code ({ cls := "com/example/keelstream/keelstream/storage/LogLimits", name := "<init>", desc := "(IJJJJ)V" } : Jvm.MethodName) prog_75_method_1_code (10 : Nat) (Option.none : Option Jvm.ClassFile.FieldType), Jvm.Cond.code ({ cls := "java/lang/Record", name := "<init>", desc := "()V" } : Jvm.MethodName) jdk_30_method_1_code (1 : Nat) (Option.none : Option Jvm.ClassFile.FieldType), Jvm.Cond.code ({ cls := "java/lang/Object", name := "<init>", desc := "()V" } : Jvm.MethodName) object_method_1_code (1 : Nat) (Option.none : Option Jvm.ClassFile.FieldType), Jvm.Cond.code ({ cls := "com/example/keelstream/keelstream/storage/LogLimits", name := "hasFlushLimit", desc := "()Z" } : Jvm.MethodName) prog_75_method_2_code (1 : Nat) (Option.some Jvm.ClassFile.FieldType.boolean), Jvm.Cond.code ({ cls := "com/example/keelstream/keelstream/storage/LogLimitsHasFlushLimitPinLaw", name := "drawnLimit", desc := "(J)J" } : Jvm.MethodName) method_2_code (2 : Nat) (Option.some Jvm.ClassFile.FieldType.long)]
set_option maxRecDepth 65536 in
theorem codes_eq : words1.filter isCode = codes1 := rfl
theorem w_codes : ∀ c ∈ words1.filter isCode, c.before args0 about1 = true := by
  rw [codes_eq]
  intro c hc
  simp only [codes1, List.mem_cons, List.not_mem_nil, or_false] at hc
  rcases hc with rfl | rfl | rfl | rfl | rfl | rfl | rfl | rfl
  · exact w_c0
  · exact w_c1
  · exact w_c2
  · exact w_c3
  · exact w_c4
  · exact w_c5
  · exact w_c6
  · exact w_c7
set_option maxRecDepth 65536 in
theorem w_t1 : (words1.take 24).all (fun c => isCode c || c.before args0 about1) = true := by decide +kernel
set_option maxRecDepth 65536 in
theorem w_t2 : (words1.drop 24).all (fun c => isCode c || c.before args0 about1) = true := by decide +kernel
theorem w_tables : (allAtoms (Jvm.Cond.code x code maxLocals ret :: tables_1)).before args0 about1 = true := by
  rw [allAtoms_all]
  show words1.all (fun c => c.before args0 about1) = true
  refine all_split ?_ w_codes
  rw [← List.take_append_drop 24 words1, List.all_append, w_t1, w_t2]
  rfl
set_option maxRecDepth 65536 in
theorem w_case : (Jvm.Cond.and given_1 narrow_1).before args0 about1 = true := by decide +kernel
theorem w_applies : (headSpec (Jvm.Cond.code x code maxLocals ret :: tables_1) room_1).applies x e0.platform about1 = true :=
  (Spec.applies_iff w_frames).mpr ⟨w_running, w_runnable, w_alone, w_named, w_hears, w_ripe, w_room, w_tables⟩
theorem atStart : AtStart classFile x code maxLocals ret World_1 tables_1 room_1 Calls_1 rest_1 Pre_1 launch0 p0 e0 about1 theMethod args0 below0 :=
  ⟨lists_1, trivial, launch0.admits_env _ _ _, launch0.least_env, fairChoices_fair.cas, fairChoices_fair.clock, w_frames, w_args, w_heap, w_applies, trivial, trivial, w_case⟩
end start1
theorem witness_1 : WitnessClaimed_1 := ⟨start1.p0, start1.e0, start1.about1, start1.theMethod, start1.args0, start1.below0, start1.atStart⟩
end Jvm.Pilot.@@N@@
