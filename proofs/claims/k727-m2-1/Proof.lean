import JvmDerived
import JvmDerived.Pilot.@@N@@Statement
import JvmDerived.Pilot.@@N@@Code
set_option linter.unusedVariables false
set_option linter.unusedSimpArgs false
namespace Jvm.Pilot.@@N@@
open Jvm Jvm.ClassFile Sem Op Lib Jvm.Free Jvm.Stand Jvm.LawKit Jvm.RoadKit Bundle Jvm.Pilot.@@N@@.Jvm.D
/-! own_Done: from frame F on top of T the run comes to its end, and R holds there -/
def own_Done (tb : Tables) (e : Env) (below : List Frame) (R : Outcome → State → Prop) (T : State) (F : JFrame) : Prop :=
  ∃ s₂ o, Steps tb e below (T.setTop F) s₂ ∧ s₂.status = .running ∧ Ended s₂ below o ∧ R o s₂
def own_R (Qq : Option Value → Heap → List Loc → Prop) (s : State) (C S : Nat) : Outcome → State → Prop :=
  fun o U => ∃ v L, o = .returned v ∧ Qq v U.heap L ∧ FrameEnd s o U L C S
def own_RW (Qq : Option Value → Heap → List Loc → Prop) (s : State) (C S : Nat) : Outcome → State → Prop :=
  fun o U => ∃ v L, o = .returned v ∧ Qq v U.heap L ∧ ReturnedEndW s o U L C S
theorem own_st {tb : Tables} {e : Env} {below : List Frame} {R : Outcome → State → Prop} {T T' : State} {F F' : JFrame} (k : ∀ t, Steps tb e below (T'.setTop F') t → Steps tb e below (T.setTop F) t) (d : own_Done tb e below R T' F') : own_Done tb e below R T F := by
  obtain ⟨a, o, h1, h2⟩ := d
  exact ⟨a, o, k a h1, h2⟩
theorem own_tr {tb : Tables} {e : Env} {below : List Frame} {R : Outcome → State → Prop} {T T' : State} {F F' : JFrame} (k : Steps tb e below (T.setTop F) (T'.setTop F')) (d : own_Done tb e below R T' F') : own_Done tb e below R T F := by
  obtain ⟨a, o, h1, h2⟩ := d
  exact ⟨a, o, k.trans h1, h2⟩
section Own
variable {p : Program} {l : Launch} {e : Env} {Rm : Room} {s : State} {m : MethodId} {args : Array Value} {below : List Frame} {meth : Method} {c : Code} {T : State} {locs : List Loc} {cells slots : Nat}
theorem own_ret (X : Stand p l e Rm s m args below meth c T locs cells slots) (hx : p.tables.exec = Jvm.exec) {pc : Nat} {Ls : Array Slot} {w : Value} {t : FieldType} {i : Instr} {rest : List Value} (hret : meth.sig.returnType = some t) (hn : narrow t w = w)
    (hi : (i = .ireturn ∧ (t = .int ∨ t = .boolean ∨ t = .byte ∨ t = .char ∨ t = .short) ∧ ∃ z, w = .int z) ∨ (i = .lreturn ∧ t = .long ∧ ∃ z, w = .long z) ∨ (i = .dreturn ∧ t = .double ∧ ∃ z, w = .double z) ∨ (i = .freturn ∧ t = .float ∧ ∃ z, w = .float z) ∨ (i = .areturn ∧ t.isReference = true ∧ w.isRef = true))
    (hd : decode c.code pc = .ok (i, 1)) (hlk : meth.locks = false) {Qq : Option Value → Heap → List Loc → Prop} {C S : Nat} (hQ : Qq (some w) T.heap locs) (hc : cells ≤ C) (hs : slots ≤ S) :
    own_Done p.tables e below (own_R Qq s C S) T (mkF m pc Ls (w :: rest)) := by
  obtain ⟨fs, hr, hrun, hended, hW, hsame⟩ := X.leave (v := some w) (fun h => by rw [hret] at h; cases h) hlk
  exact ⟨_, _, retOut X hx hret hn hi hd hr, hrun, hended, _, _, rfl, hQ, ⟨_, rfl⟩, hW, hsame.mono hc hs⟩
theorem own_retI (X : Stand p l e Rm s m args below meth c T locs cells slots) (hx : p.tables.exec = Jvm.exec) {pc : Nat} {Ls : Array Slot} {z : Int32} {rest : List Value} (hret : meth.sig.returnType = some .int) (hd : decode c.code pc = .ok (.ireturn, 1)) (hlk : meth.locks = false)
    {Qq : Option Value → Heap → List Loc → Prop} {C S : Nat} (hQ : Qq (some (.int z)) T.heap locs) (hc : cells ≤ C) (hs : slots ≤ S) : own_Done p.tables e below (own_R Qq s C S) T (mkF m pc Ls (.int z :: rest)) :=
  own_ret X hx hret rfl (Or.inl ⟨rfl, Or.inl rfl, _, rfl⟩) hd hlk hQ hc hs
theorem own_retN (X : Stand p l e Rm s m args below meth c T locs cells slots) (hx : p.tables.exec = Jvm.exec) {pc : Nat} {Ls : Array Slot} {z : Int32} {t : FieldType} {rest : List Value} (hret : meth.sig.returnType = some t) (ht : t = .boolean ∨ t = .byte ∨ t = .char ∨ t = .short) (hn : narrow t (.int z) = .int z) (hd : decode c.code pc = .ok (.ireturn, 1)) (hlk : meth.locks = false)
    {Qq : Option Value → Heap → List Loc → Prop} {C S : Nat} (hQ : Qq (some (.int z)) T.heap locs) (hc : cells ≤ C) (hs : slots ≤ S) : own_Done p.tables e below (own_R Qq s C S) T (mkF m pc Ls (.int z :: rest)) :=
  own_ret X hx hret hn (Or.inl ⟨rfl, Or.inr ht, _, rfl⟩) hd hlk hQ hc hs
theorem own_retJ (X : Stand p l e Rm s m args below meth c T locs cells slots) (hx : p.tables.exec = Jvm.exec) {pc : Nat} {Ls : Array Slot} {z : Int64} {rest : List Value} (hret : meth.sig.returnType = some .long) (hd : decode c.code pc = .ok (.lreturn, 1)) (hlk : meth.locks = false)
    {Qq : Option Value → Heap → List Loc → Prop} {C S : Nat} (hQ : Qq (some (.long z)) T.heap locs) (hc : cells ≤ C) (hs : slots ≤ S) : own_Done p.tables e below (own_R Qq s C S) T (mkF m pc Ls (.long z :: rest)) :=
  own_ret X hx hret rfl (Or.inr (Or.inl ⟨rfl, rfl, _, rfl⟩)) hd hlk hQ hc hs
theorem own_narrow {t : FieldType} {v : Value} (h : v.isRef = true) : narrow t v = v := by
  rcases ref_cases h with rfl | ⟨a, rfl⟩ <;> cases t <;> rfl
theorem own_retA (X : Stand p l e Rm s m args below meth c T locs cells slots) (hx : p.tables.exec = Jvm.exec) {pc : Nat} {Ls : Array Slot} {w : Value} {t : FieldType} {rest : List Value} (hret : meth.sig.returnType = some t) (ht : t.isReference = true) (hw : w.isRef = true) (hd : decode c.code pc = .ok (.areturn, 1)) (hlk : meth.locks = false)
    {Qq : Option Value → Heap → List Loc → Prop} {C S : Nat} (hQ : Qq (some w) T.heap locs) (hc : cells ≤ C) (hs : slots ≤ S) : own_Done p.tables e below (own_R Qq s C S) T (mkF m pc Ls (w :: rest)) :=
  own_ret X hx hret (own_narrow hw) (Or.inr (Or.inr (Or.inr (Or.inr ⟨rfl, ht, hw⟩)))) hd hlk hQ hc hs
theorem own_retV (X : Stand p l e Rm s m args below meth c T locs cells slots) (hx : p.tables.exec = Jvm.exec) {pc : Nat} {Ls : Array Slot} (hret : meth.sig.returnType = none) (hd : decode c.code pc = .ok (.return_, 1)) (hlk : meth.locks = false)
    {Qq : Option Value → Heap → List Loc → Prop} {C S : Nat} (hQ : Qq none T.heap locs) (hc : cells ≤ C) (hs : slots ≤ S) : own_Done p.tables e below (own_R Qq s C S) T (mkF m pc Ls []) := by
  obtain ⟨fs, hr, hrun, hended, hW, hsame⟩ := X.leave (v := none) (fun _ => rfl) hlk
  exact ⟨_, _, X.returnOut hx hret hd hr, hrun, hended, _, _, rfl, hQ, ⟨_, rfl⟩, hW, hsame.mono hc hs⟩
theorem own_retW {vm₁ : Vm} (X : Stand p l e Rm (s.setVm vm₁) m args below meth c T locs cells slots) (hx : p.tables.exec = Jvm.exec) {pc : Nat} {Ls : Array Slot} {w : Value} {t : FieldType} {i : Instr} {rest : List Value} (hret : meth.sig.returnType = some t) (hn : narrow t w = w)
    (hi : (i = .ireturn ∧ (t = .int ∨ t = .boolean ∨ t = .byte ∨ t = .char ∨ t = .short) ∧ ∃ z, w = .int z) ∨ (i = .lreturn ∧ t = .long ∧ ∃ z, w = .long z) ∨ (i = .dreturn ∧ t = .double ∧ ∃ z, w = .double z) ∨ (i = .freturn ∧ t = .float ∧ ∃ z, w = .float z) ∨ (i = .areturn ∧ t.isReference = true ∧ w.isRef = true))
    {ks : Nat} (hS : s.Since vm₁ ks) (hk : ks ≤ T.heap.size) (hd : decode c.code pc = .ok (i, 1)) (hlk : meth.locks = false) {Qq : Option Value → Heap → List Loc → Prop} {C S : Nat} (hQ : Qq (some w) T.heap locs) (hc : cells ≤ C) (hs : slots ≤ S) :
    own_Done p.tables e below (own_RW Qq s C S) T (mkF m pc Ls (w :: rest)) := by
  obtain ⟨fs, hr, hrun, hended, hW⟩ := X.leaveW hS hk (v := some w) (fun h => by rw [hret] at h; cases h) hlk
  exact ⟨_, _, retOut X hx hret hn hi hd hr, hrun, hended, _, _, rfl, hQ, hW.1, hW.2.1, hW.2.2.1, hW.2.2.2.mono hc hs⟩
theorem own_retIW {vm₁ : Vm} (X : Stand p l e Rm (s.setVm vm₁) m args below meth c T locs cells slots) (hx : p.tables.exec = Jvm.exec) {pc : Nat} {Ls : Array Slot} {z : Int32} {rest : List Value} (hret : meth.sig.returnType = some .int) {ks : Nat} (hS : s.Since vm₁ ks) (hk : ks ≤ T.heap.size) (hd : decode c.code pc = .ok (.ireturn, 1)) (hlk : meth.locks = false)
    {Qq : Option Value → Heap → List Loc → Prop} {C S : Nat} (hQ : Qq (some (.int z)) T.heap locs) (hc : cells ≤ C) (hs : slots ≤ S) : own_Done p.tables e below (own_RW Qq s C S) T (mkF m pc Ls (.int z :: rest)) :=
  own_retW X hx hret rfl (Or.inl ⟨rfl, Or.inl rfl, _, rfl⟩) hS hk hd hlk hQ hc hs
theorem own_retNW {vm₁ : Vm} (X : Stand p l e Rm (s.setVm vm₁) m args below meth c T locs cells slots) (hx : p.tables.exec = Jvm.exec) {pc : Nat} {Ls : Array Slot} {z : Int32} {t : FieldType} {rest : List Value} (hret : meth.sig.returnType = some t) (ht : t = .boolean ∨ t = .byte ∨ t = .char ∨ t = .short) (hn : narrow t (.int z) = .int z) {ks : Nat} (hS : s.Since vm₁ ks) (hk : ks ≤ T.heap.size) (hd : decode c.code pc = .ok (.ireturn, 1)) (hlk : meth.locks = false)
    {Qq : Option Value → Heap → List Loc → Prop} {C S : Nat} (hQ : Qq (some (.int z)) T.heap locs) (hc : cells ≤ C) (hs : slots ≤ S) : own_Done p.tables e below (own_RW Qq s C S) T (mkF m pc Ls (.int z :: rest)) :=
  own_retW X hx hret hn (Or.inl ⟨rfl, Or.inr ht, _, rfl⟩) hS hk hd hlk hQ hc hs
theorem own_retJW {vm₁ : Vm} (X : Stand p l e Rm (s.setVm vm₁) m args below meth c T locs cells slots) (hx : p.tables.exec = Jvm.exec) {pc : Nat} {Ls : Array Slot} {z : Int64} {rest : List Value} (hret : meth.sig.returnType = some .long) {ks : Nat} (hS : s.Since vm₁ ks) (hk : ks ≤ T.heap.size) (hd : decode c.code pc = .ok (.lreturn, 1)) (hlk : meth.locks = false)
    {Qq : Option Value → Heap → List Loc → Prop} {C S : Nat} (hQ : Qq (some (.long z)) T.heap locs) (hc : cells ≤ C) (hs : slots ≤ S) : own_Done p.tables e below (own_RW Qq s C S) T (mkF m pc Ls (.long z :: rest)) :=
  own_retW X hx hret rfl (Or.inr (Or.inl ⟨rfl, rfl, _, rfl⟩)) hS hk hd hlk hQ hc hs
theorem own_mono (X : Stand p l e Rm s m args below meth c T locs cells slots) {C S : Nat} (hc : cells ≤ C) (hs : slots ≤ S) : Stand p l e Rm s m args below meth c T locs C S :=
  { X with same := X.same.mono hc hs }
end Own
theorem own_cat1 {v : Value} (h : v.isRef = true) : v.category = 1 := by rcases ref_cases h with rfl | ⟨a, rfl⟩ <;> rfl
theorem own_fits {C : String} {v : Value} (h : v.isRef = true) : fits (.object C) v = true := by rcases ref_cases h with rfl | ⟨a, rfl⟩ <;> rfl
theorem own_nb {z : Int32} (h : z = 0 ∨ z = 1) : narrow .boolean (.int z) = .int z := by rcases h with rfl | rfl <;> rfl
theorem own_fb {z : Int32} (h : z = 0 ∨ z = 1) : fits .boolean (.int z) = true := by rcases h with rfl | rfl <;> rfl
theorem own_ext_refl (h : Heap) : Ext h h := ⟨Nat.le_refl _, fun _ _ q => q⟩
theorem own_ext_trans {h h' h2 : Heap} (A : Ext h h') (B : Ext h' h2) : Ext h h2 := ⟨Nat.le_trans A.1 B.1, fun a c q => B.2 a c (A.2 a c q)⟩
theorem own_O_wr {Z : State} {h h' : Heap} {a : Addr} {sl : Nat} {v : Value} (A : Ext Z.heap h) (B : Wr h h' a sl v) (q : Z.heap.size ≤ a) : Ext Z.heap h' := (Old.wr (⟨rfl, A⟩ : Old Z Z.heap.size h) B q).2
theorem own_O_keep {Z : State} {h h' : Heap} {ws : List Addr} (A : Ext Z.heap h) (B : Keep h h' ws) (q : ∀ a ∈ ws, Z.heap.size ≤ a) : Ext Z.heap h' := (Old.keep (⟨rfl, A⟩ : Old Z Z.heap.size h) B q).2
theorem own_eq_int {args : Array Value} {s : State} {t : Term} {k : Int32} (h : (Jvm.Cond.eq t (Term.int k)).value args s none s [] = some true) : t.eval args s none [] s = some (.int k) := by
  obtain ⟨u, v, h1, h2, h3, h4⟩ := cmp_v (Or.inl h)
  have h5 : v = .int k := (Option.some.inj h2).symm
  subst h5
  obtain ⟨z, rfl⟩ := h4
  rw [h1]
  simp only [Jvm.Cond.value, h1, h2, Option.some.injEq, decide_eq_true_eq] at h
  rw [h]
theorem own_fld_int {args : Array Value} {s : State} {t : Term} {C n d : String} {a : Addr} {k : Int32} (ht : t.eval args s none [] s = some (.ref a)) (h : (Jvm.Cond.eq (Term.field t C n d) (Term.int k)).value args s none s [] = some true) : s.fieldOf? a C n d = some (.int k) :=
  (fld_at ht).symm.trans (own_eq_int h)
theorem own_eq_ref {args : Array Value} {s : State} {t u : Term} {a : Addr} (h : (Jvm.Cond.eq t u).value args s none s [] = some true) (hu : u.eval args s none [] s = some (.ref a)) : t.eval args s none [] s = some (.ref a) := by
  obtain ⟨x1, y1, h1, h2, h3, h4⟩ := cmp_v (Or.inl h)
  obtain rfl : y1 = .ref a := Option.some.inj (h2.symm.trans hu)
  have hr : x1.isRef = true := by cases x1 <;> first | rfl | (simp [Kin] at h3; done) | exact h3.1
  have e := gotT (eq_R h1 h2 hr rfl) h
  rw [h1, e]
theorem own_len {args : Array Value} {s : State} {t : Term} {a : Addr} {cl : Cell} {n : Int32} (h : (Term.length t).eval args s none [] s = some (.int n)) (ht : t.eval args s none [] s = some (.ref a)) (hc : s.heap[a]? = some cl) : cl.slots.size < 2 ^ 31 ∧ cl.slots.size.toInt32 = n := by
  obtain ⟨a', cell, e1, e2, e3⟩ := Term.length_spec h
  cases ht.symm.trans e1
  cases hc.symm.trans (State.arrayAt?_spec e2).1
  by_cases q : cl.slots.size < 2 ^ 31
  · exact ⟨q, (Value.int.inj e3).symm⟩
  · simp [Term.eval, ht, e2, q] at h
theorem own_initFor {args : Array Value} {s : State} {C n d : String} (h1 : (Jvm.Cond.initializedFor C n d).before args s = true) (h2 : (Jvm.Cond.laysStatic C n d).before args s = true) : (Jvm.Cond.initialized C).before args s = true := by
  obtain ⟨c, k, i, f, a, cell, q1, q2, -⟩ := Cond.laysStatic_spec h2
  have q3 := Cond.initializedFor_spec q2 h1
  have q4 := State.fieldFound?_class q2
  simp [Cond.before, Cond.holds, Cond.value, q1, q4, q3]
theorem own_ns_root {Z : State} {a0 : Array Value} {Ob K : String} {n : Nat} (w : (Jvm.Cond.noSuperclass Ob).before a0 Z = true) (wk : (Jvm.Cond.instantiable K n).before a0 Z = true) (hn : Ob ≠ K) : NS Z Ob K := by
  obtain ⟨c, k, h1, h2, h3, -, -⟩ := Cond.noSuperclass_spec w
  obtain ⟨t, k2, g1, -⟩ := Cond.instantiable_spec wk
  have ne := ids_ne h1 g1 hn
  refine ⟨c, t, h1, g1, fun fuel => ?_⟩
  cases fuel with
  | zero => rfl
  | succ f => simp [Vm.isSubclassAux, ne, h2, h3]
theorem own_ns_no {Z : State} {a0 : Array Value} {C Sp K : String} {n : Nat} (w : (Jvm.Cond.superclass C Sp).before a0 Z = true) (wk : (Jvm.Cond.instantiable K n).before a0 Z = true) (ns : NS Z C K) (hn : C ≠ K) : ∃ c t, Z.vm.findClass C = some c ∧ Z.vm.findClass K = some t ∧ Z.vm.assignable c t = false := by
  obtain ⟨c, t, h0, g0, n3⟩ := ns
  obtain ⟨p, k, kp, h1, h2, h3, h4, h5, -, h7⟩ := Cond.superclass_spec h0 w
  obtain ⟨t', k', g1, g2, g3, g4, -⟩ := Cond.instantiable_spec wk
  cases g0.symm.trans g1
  have g5 : k'.isInterface = false := by
    simp only [Bool.or_eq_false_iff] at g4
    exact g4.1
  have ne := ids_ne h0 g0 hn
  refine ⟨c, t, h0, g0, ?_⟩
  show Z.vm.assignableAux (255 + 1) c t = false
  simp [Vm.assignableAux, ne, h2, g2, h5, g3, g5, Vm.isSubclass, n3]
theorem own_ext_keep {h h' : Heap} (K : Keep h h' []) : Ext h h' := ⟨K.1, fun a c q => K.2.1 a c q (fun z => nomatch z)⟩
theorem own_sub_at {args : Array Value} {first s : State} {o : Option Outcome} {idx : List Nat} {t u : Term} {v w : Int32} (ha : t.eval args first o idx s = some (.int v)) (hb : u.eval args first o idx s = some (.int w)) : (Term.sub t u).eval args first o idx s = some (.int (v - w)) := by simp [Term.eval, ha, hb]
def own_Bx (Z : State) (h : Heap) (w : Value) (b q : Int32) : Prop := (w = .null ∧ b = 1) ∨ (b = 0 ∧ ∃ r : Addr, w = .ref r ∧ Exa Z h r "java/lang/Integer" ∧ Fld Z h r "java/lang/Integer" "value" "I" (.int q))
theorem own_Bx.ext {Z : State} {h h' : Heap} {w : Value} {b q : Int32} (B : own_Bx Z h w b q) (E : Ext h h') : own_Bx Z h' w b q := by
  rcases B with B | ⟨e, r, rfl, X, F⟩
  · exact Or.inl B
  · exact Or.inr ⟨e, r, rfl, X.ext E, F.ext E⟩
theorem own_Bx.keep {Z : State} {h h' : Heap} {w : Value} {b q : Int32} {a : Addr} {C : String} (B : own_Bx Z h w b q) (K : Keep h h' [a]) (X' : Exa Z h a C) (hn : "java/lang/Integer" ≠ C) : own_Bx Z h' w b q := by
  rcases B with B | ⟨e, r, rfl, X, F⟩
  · exact Or.inl B
  · exact Or.inr ⟨e, r, rfl, X.keep K, F.keep K (ninS (ne_exa X X' hn) nin0)⟩
theorem own_Bx.isRef {Z : State} {h : Heap} {w : Value} {b q : Int32} (B : own_Bx Z h w b q) : w.isRef = true := by
  rcases B with ⟨rfl, -⟩ | ⟨-, r, rfl, -, -⟩ <;> rfl
def own_eqv (b1 x1 b2 x2 : Int32) : Int32 := if b1 = 0 then (if b2 = 0 then (if x1 = x2 then 1 else 0) else 0) else (if b2 = 0 then 0 else 1)
theorem own_eqv_self (b z : Int32) : own_eqv b z b z = 1 := by
  unfold own_eqv
  by_cases h : b = 0 <;> simp [h]
theorem own_fld_uniq {Z : State} {h : Heap} {a : Addr} {C n d : String} {v w : Value} (F : Fld Z h a C n d v) (G : Fld Z h a C n d w) : v = w := by
  by_cases q : v = w
  · exact q
  · exact absurd rfl (F.ne G q)
theorem own_selects_private {args : Array Value} {s : State} {y : MethodName} {n : Nat} (hinst : (Jvm.Cond.instanceMethod y).before args s = true) (hpriv : (Jvm.Cond.privateMethod y).before args s = true) (hi : (Jvm.Cond.instantiable y.cls n).before args s = true) (hy : y.cls ≠ "java/lang/invoke/MethodHandle" ∧ y.cls ≠ "java/lang/invoke/VarHandle") : (Jvm.Cond.selects y.cls y y).before args s = true := by
  obtain ⟨mk, methM, hnamed, hmethM, hstM, habM⟩ := Cond.instanceMethod_spec hinst
  have hc := findClass_of_methodNamed hnamed
  obtain ⟨c, k, g1, g2, g3, g4, -⟩ := Cond.instantiable_spec hi
  cases hc.symm.trans g1
  have hf := State.methodFound?_of_named hnamed hy
  have hs : selectMethod {} s.vm mk.cls mk = .method mk := selectMethod_private hmethM (Cond.privateMethod_at hpriv mk methM hnamed hmethM)
  have g5 : k.isInterface = false := by
    simp only [Bool.or_eq_false_iff] at g4
    exact g4.1
  simp [Cond.before, Cond.holds, Cond.value, hc, hf, hnamed, hs, g2, g5]
def Ctx (Z : State) (a0 : Array Value) (w_READ : Addr) (w_DENY : Addr) (w_READWRITE : Addr) (w_WRITE : Addr) : Prop := (∀ d ∈ tables_1, d.before a0 Z = true) ∧ Sta Z Z.heap "com/example/nibbl/nibbl/auth/AclFile$Grant" "READ" "Lcom/example/nibbl/nibbl/auth/AclFile$Grant;" (.ref w_READ) ∧ Exa Z Z.heap w_READ "com/example/nibbl/nibbl/auth/AclFile$Grant" ∧ Sta Z Z.heap "com/example/nibbl/nibbl/auth/AclFile$Grant" "DENY" "Lcom/example/nibbl/nibbl/auth/AclFile$Grant;" (.ref w_DENY) ∧ Exa Z Z.heap w_DENY "com/example/nibbl/nibbl/auth/AclFile$Grant" ∧ Sta Z Z.heap "com/example/nibbl/nibbl/auth/AclFile$Grant" "READWRITE" "Lcom/example/nibbl/nibbl/auth/AclFile$Grant;" (.ref w_READWRITE) ∧ Exa Z Z.heap w_READWRITE "com/example/nibbl/nibbl/auth/AclFile$Grant" ∧ Sta Z Z.heap "com/example/nibbl/nibbl/auth/AclFile$Grant" "WRITE" "Lcom/example/nibbl/nibbl/auth/AclFile$Grant;" (.ref w_WRITE) ∧ Exa Z Z.heap w_WRITE "com/example/nibbl/nibbl/auth/AclFile$Grant" ∧ Fld Z Z.heap w_DENY "java/lang/Enum" "ordinal" "I" (.int (3 : Int32)) ∧ Fld Z Z.heap w_READ "java/lang/Enum" "ordinal" "I" (.int (0 : Int32)) ∧ Fld Z Z.heap w_READWRITE "java/lang/Enum" "ordinal" "I" (.int (2 : Int32)) ∧ Fld Z Z.heap w_WRITE "java/lang/Enum" "ordinal" "I" (.int (1 : Int32)) ∧ True
def Q0 (Z : State) (v : Option Value) (h : Heap) (L : List Loc) : Prop := v = some (.int (1 : Int32)) ∧ Fr Z.heap.size L
def Q1 (Z : State) (r : Value) (h0 : Heap) (v : Option Value) (h : Heap) (L : List Loc) : Prop := v = some r ∧ Fr Z.heap.size L ∧ h = h0
theorem d1_0 : decode method_3_code 0 = .ok (.iload_n 0, 1) := by decide +kernel
theorem d1_1 : decode method_3_code 1 = .ok (.ifCond .ne 7, 3) := by decide +kernel
theorem d1_4 : decode method_3_code 4 = .ok (.getstatic 7, 3) := by decide +kernel
theorem d1_7 : decode method_3_code 7 = .ok (.areturn, 1) := by decide +kernel
theorem d1_8 : decode method_3_code 8 = .ok (.iload_n 0, 1) := by decide +kernel
theorem d1_9 : decode method_3_code 9 = .ok (.iconst 1, 1) := by decide +kernel
theorem d1_10 : decode method_3_code 10 = .ok (.if_icmp .ne 7, 3) := by decide +kernel
theorem d1_13 : decode method_3_code 13 = .ok (.getstatic 13, 3) := by decide +kernel
theorem d1_16 : decode method_3_code 16 = .ok (.areturn, 1) := by decide +kernel
theorem d1_17 : decode method_3_code 17 = .ok (.iload_n 0, 1) := by decide +kernel
theorem d1_18 : decode method_3_code 18 = .ok (.iconst 2, 1) := by decide +kernel
theorem d1_19 : decode method_3_code 19 = .ok (.if_icmp .ne 7, 3) := by decide +kernel
theorem d1_22 : decode method_3_code 22 = .ok (.getstatic 16, 3) := by decide +kernel
theorem d1_25 : decode method_3_code 25 = .ok (.areturn, 1) := by decide +kernel
theorem d1_26 : decode method_3_code 26 = .ok (.getstatic 19, 3) := by decide +kernel
theorem d1_29 : decode method_3_code 29 = .ok (.areturn, 1) := by decide +kernel
theorem pn_0 : plainName "com/example/nibbl/nibbl/auth/GrantReadsPinLaw" = true := by first | (simp [plainName, overriddenIn]; done) | decide +kernel
set_option maxRecDepth 65536 in
set_option maxHeartbeats 40000000 in
theorem rm1 (l : Launch) (Z : State) (a0 : Array Value) {w_READ : Addr} {w_DENY : Addr} {w_READWRITE : Addr} {w_WRITE : Addr} (CX : Ctx Z a0 w_READ w_DENY w_READWRITE w_WRITE) (ws : List Jvm.Cond) (p1 : Int32) (r : Addr) (h0 : Heap) (O : Ext Z.heap h0) (hr : r = if p1 = 0 then w_READ else if p1 = 1 then w_WRITE else if p1 = 2 then w_READWRITE else w_DENY) :
    MetFree l (⟨"com/example/nibbl/nibbl/auth/GrantReadsPinLaw", "grant", "(I)Lcom/example/nibbl/nibbl/auth/AclFile$Grant;"⟩ : MethodName) (head1 (Jvm.Cond.code (⟨"com/example/nibbl/nibbl/auth/GrantReadsPinLaw", "grant", "(I)Lcom/example/nibbl/nibbl/auth/AclFile$Grant;"⟩ : MethodName) method_3_code 1 (some (.object "com/example/nibbl/nibbl/auth/AclFile$Grant")) :: ws) ({ frames := 0, cells := 0, slots := 0, locals := 0 } : Room)) (fun a U => a = #[(.int p1)] ∧ Z.Warmed39 U.vm ∧ U.heap = h0) (fun _ _ _ _ _ => True) (fun _ U o U' => ∃ v L, o = .returned v ∧ Q1 Z (.ref r) h0 v U'.heap L ∧ FrameEnd U o U' L ({ frames := 0, cells := 0, slots := 0, locals := 0 } : Room).cells ({ frames := 0, cells := 0, slots := 0, locals := 0 } : Room).slots) := by
  refine MetFree.of_bodySF (plainFor_of_name pn_0) hisR ?_
  intro p e s m args below meth c s₁ Bd hml0 hP hK
  obtain ⟨rfl, hZ, hh⟩ := hP
  have CX0 := CX
  obtain ⟨hw, S_READ, E_READ, S_DENY, E_DENY, S_READWRITE, E_READWRITE, S_WRITE, E_WRITE, O_DENY, O_READ, O_READWRITE, O_WRITE, -⟩ := CX0
  have hx := Bd.exec
  have hby := Bd.bytes
  have hml : c.maxLocals = 1 := hml0
  have hown : s.vm.findClass "com/example/nibbl/nibbl/auth/GrantReadsPinLaw" = some m.cls := findClass_of_methodNamed Bd.named
  have hnm := (name_of_methodNamed Bd.named Bd.method).1
  have hlk : meth.locks = false := BodyLoose.notSynchronized Bd
  have X0 : Stand p l e ({ frames := 0, cells := 0, slots := 0, locals := 0 } : Room) s m #[(.int p1)] below meth c s₁ [] 0 0 := Stand.of_body Bd
  have e0 : s₁.heap = h0 := by rw [← hh, Bd.state]; rfl
  have N := Fr.nil Z.heap.size
  show own_Done p.tables e below (own_R (Q1 Z (.ref r) h0) s 0 0) s₁ (entryFrame m #[(.int p1)] 1)
  refine own_st (T' := s₁) (F' := (mkF m 0 #[.val (.int p1)] [])) (fun t k => castTop (by first | rfl | (simp [entryFrame, mkF, argsToLocals, Value.category]; done)) k) ?_
  refine own_st (T' := s₁) (F' := (mkF m 1 #[.val (.int p1)] [(.int p1)])) (fun t k => XS.iloadN X0.here hx rfl (hb hby d1_0) rfl k) ?_
  by_cases hc1_1 : p1 = (0 : Int32)
  · refine own_st (T' := s₁) (F' := (mkF m 4 #[.val (.int p1)] [])) (fun t k => XS.ifNo X0.here hx rfl (hb hby d1_1) rfl ((if0 _ _).trans (teq hc1_1).2) k) ?_
    obtain ⟨T2, X2, e2, st2⟩ := getS2 X0 hx hZ hown (host := "") (Or.inl (hw _ (List.mem_of_getElem? (i := 4) rfl))) Via.refl e0 (S_READ.ext O) (g := (mkF m 4 #[.val (.int p1)] [])) rfl (hb hby d1_4)
    refine own_st (T' := T2) (F' := (mkF m 7 #[.val (.int p1)] [(.ref w_READ)])) st2 ?_
    exact own_retA X2 hx (t := (.object "com/example/nibbl/nibbl/auth/AclFile$Grant")) Bd.returns rfl rfl (hb hby d1_7) hlk (by show Q1 Z (.ref r) h0 _ T2.heap _; rw [e2]; exact ⟨by simp [hr, hc1_1], N, rfl⟩) (by decide) (by decide)
  · refine own_st (T' := s₁) (F' := (mkF m 8 #[.val (.int p1)] [])) (fun t k => XS.ifYes X0.here hx rfl (pc0 := 1) (pc' := 8) rfl (hb hby d1_1) rfl ((if0 _ _).trans (feq hc1_1).2) (by decide) (by decide) k) ?_
    refine own_st (T' := s₁) (F' := (mkF m 9 #[.val (.int p1)] [(.int p1)])) (fun t k => XS.iloadN X0.here hx rfl (hb hby d1_8) rfl k) ?_
    refine own_st (T' := s₁) (F' := (mkF m 10 #[.val (.int p1)] [(.int (1 : Int32)), (.int p1)])) (fun t k => XS.iconst X0.here hx rfl (hb hby d1_9) k) ?_
    by_cases hc10_3 : p1 = (1 : Int32)
    · refine own_st (T' := s₁) (F' := (mkF m 13 #[.val (.int p1)] [])) (fun t k => XS.icmpNo X0.here hx rfl (hb hby d1_10) rfl (teq hc10_3).2 k) ?_
      obtain ⟨T4, X4, e4, st4⟩ := getS2 X0 hx hZ hown (host := "") (Or.inl (hw _ (List.mem_of_getElem? (i := 21) rfl))) Via.refl e0 (S_WRITE.ext O) (g := (mkF m 13 #[.val (.int p1)] [])) rfl (hb hby d1_13)
      refine own_st (T' := T4) (F' := (mkF m 16 #[.val (.int p1)] [(.ref w_WRITE)])) st4 ?_
      exact own_retA X4 hx (t := (.object "com/example/nibbl/nibbl/auth/AclFile$Grant")) Bd.returns rfl rfl (hb hby d1_16) hlk (by show Q1 Z (.ref r) h0 _ T4.heap _; rw [e4]; exact ⟨by simp [hr, hc1_1, hc10_3], N, rfl⟩) (by decide) (by decide)
    · refine own_st (T' := s₁) (F' := (mkF m 17 #[.val (.int p1)] [])) (fun t k => XS.icmpYes X0.here hx rfl (pc0 := 10) (pc' := 17) rfl (hb hby d1_10) rfl (feq hc10_3).2 (by decide) (by decide) k) ?_
      refine own_st (T' := s₁) (F' := (mkF m 18 #[.val (.int p1)] [(.int p1)])) (fun t k => XS.iloadN X0.here hx rfl (hb hby d1_17) rfl k) ?_
      refine own_st (T' := s₁) (F' := (mkF m 19 #[.val (.int p1)] [(.int (2 : Int32)), (.int p1)])) (fun t k => XS.iconst X0.here hx rfl (hb hby d1_18) k) ?_
      by_cases hc19_5 : p1 = (2 : Int32)
      · refine own_st (T' := s₁) (F' := (mkF m 22 #[.val (.int p1)] [])) (fun t k => XS.icmpNo X0.here hx rfl (hb hby d1_19) rfl (teq hc19_5).2 k) ?_
        obtain ⟨T6, X6, e6, st6⟩ := getS2 X0 hx hZ hown (host := "") (Or.inl (hw _ (List.mem_of_getElem? (i := 20) rfl))) Via.refl e0 (S_READWRITE.ext O) (g := (mkF m 22 #[.val (.int p1)] [])) rfl (hb hby d1_22)
        refine own_st (T' := T6) (F' := (mkF m 25 #[.val (.int p1)] [(.ref w_READWRITE)])) st6 ?_
        exact own_retA X6 hx (t := (.object "com/example/nibbl/nibbl/auth/AclFile$Grant")) Bd.returns rfl rfl (hb hby d1_25) hlk (by show Q1 Z (.ref r) h0 _ T6.heap _; rw [e6]; exact ⟨by simp [hr, hc1_1, hc10_3, hc19_5], N, rfl⟩) (by decide) (by decide)
      · refine own_st (T' := s₁) (F' := (mkF m 26 #[.val (.int p1)] [])) (fun t k => XS.icmpYes X0.here hx rfl (pc0 := 19) (pc' := 26) rfl (hb hby d1_19) rfl (feq hc19_5).2 (by decide) (by decide) k) ?_
        obtain ⟨T7, X7, e7, st7⟩ := getS2 X0 hx hZ hown (host := "") (Or.inl (hw _ (List.mem_of_getElem? (i := 16) rfl))) Via.refl e0 (S_DENY.ext O) (g := (mkF m 26 #[.val (.int p1)] [])) rfl (hb hby d1_26)
        refine own_st (T' := T7) (F' := (mkF m 29 #[.val (.int p1)] [(.ref w_DENY)])) st7 ?_
        exact own_retA X7 hx (t := (.object "com/example/nibbl/nibbl/auth/AclFile$Grant")) Bd.returns rfl rfl (hb hby d1_29) hlk (by show Q1 Z (.ref r) h0 _ T7.heap _; rw [e7]; exact ⟨by simp [hr, hc1_1, hc10_3, hc19_5], N, rfl⟩) (by decide) (by decide)
theorem d2_0 : decode method_2_code 0 = .ok (.iload_n 0, 1) := by decide +kernel
theorem d2_1 : decode method_2_code 1 = .ok (.ifCond .ne 5, 3) := by decide +kernel
theorem d2_4 : decode method_2_code 4 = .ok (.iconst 1, 1) := by decide +kernel
theorem d2_5 : decode method_2_code 5 = .ok (.ireturn, 1) := by decide +kernel
theorem d2_6 : decode method_2_code 6 = .ok (.iload_n 0, 1) := by decide +kernel
theorem d2_7 : decode method_2_code 7 = .ok (.iconst 1, 1) := by decide +kernel
theorem d2_8 : decode method_2_code 8 = .ok (.if_icmp .ne 5, 3) := by decide +kernel
theorem d2_11 : decode method_2_code 11 = .ok (.iconst 2, 1) := by decide +kernel
theorem d2_12 : decode method_2_code 12 = .ok (.ireturn, 1) := by decide +kernel
theorem d2_13 : decode method_2_code 13 = .ok (.iload_n 0, 1) := by decide +kernel
theorem d2_14 : decode method_2_code 14 = .ok (.iconst 2, 1) := by decide +kernel
theorem d2_15 : decode method_2_code 15 = .ok (.if_icmp .ne 5, 3) := by decide +kernel
theorem d2_18 : decode method_2_code 18 = .ok (.iconst 3, 1) := by decide +kernel
theorem d2_19 : decode method_2_code 19 = .ok (.ireturn, 1) := by decide +kernel
theorem d2_20 : decode method_2_code 20 = .ok (.iconst 0, 1) := by decide +kernel
theorem d2_21 : decode method_2_code 21 = .ok (.ireturn, 1) := by decide +kernel
set_option maxRecDepth 65536 in
set_option maxHeartbeats 40000000 in
theorem rm2 (l : Launch) (Z : State) (a0 : Array Value) {w_READ : Addr} {w_DENY : Addr} {w_READWRITE : Addr} {w_WRITE : Addr} (CX : Ctx Z a0 w_READ w_DENY w_READWRITE w_WRITE) (ws : List Jvm.Cond) (p1 : Int32) (r : Int32) (h0 : Heap) (O : Ext Z.heap h0) (hr : r = if p1 = 0 then 1 else if p1 = 1 then 2 else if p1 = 2 then 3 else 0) :
    MetFree l (⟨"com/example/nibbl/nibbl/auth/GrantReadsPinLaw", "accesses", "(I)I"⟩ : MethodName) (head1 (Jvm.Cond.code (⟨"com/example/nibbl/nibbl/auth/GrantReadsPinLaw", "accesses", "(I)I"⟩ : MethodName) method_2_code 1 (some .int) :: ws) ({ frames := 0, cells := 0, slots := 0, locals := 0 } : Room)) (fun a U => a = #[(.int p1)] ∧ Z.Warmed39 U.vm ∧ U.heap = h0) (fun _ _ _ _ _ => True) (fun _ U o U' => ∃ v L, o = .returned v ∧ Q1 Z (.int r) h0 v U'.heap L ∧ FrameEnd U o U' L ({ frames := 0, cells := 0, slots := 0, locals := 0 } : Room).cells ({ frames := 0, cells := 0, slots := 0, locals := 0 } : Room).slots) := by
  refine MetFree.of_bodySF (plainFor_of_name pn_0) hisR ?_
  intro p e s m args below meth c s₁ Bd hml0 hP hK
  obtain ⟨rfl, hZ, hh⟩ := hP
  have CX0 := CX
  obtain ⟨hw, S_READ, E_READ, S_DENY, E_DENY, S_READWRITE, E_READWRITE, S_WRITE, E_WRITE, O_DENY, O_READ, O_READWRITE, O_WRITE, -⟩ := CX0
  have hx := Bd.exec
  have hby := Bd.bytes
  have hml : c.maxLocals = 1 := hml0
  have hown : s.vm.findClass "com/example/nibbl/nibbl/auth/GrantReadsPinLaw" = some m.cls := findClass_of_methodNamed Bd.named
  have hnm := (name_of_methodNamed Bd.named Bd.method).1
  have hlk : meth.locks = false := BodyLoose.notSynchronized Bd
  have X0 : Stand p l e ({ frames := 0, cells := 0, slots := 0, locals := 0 } : Room) s m #[(.int p1)] below meth c s₁ [] 0 0 := Stand.of_body Bd
  have e0 : s₁.heap = h0 := by rw [← hh, Bd.state]; rfl
  have N := Fr.nil Z.heap.size
  show own_Done p.tables e below (own_R (Q1 Z (.int r) h0) s 0 0) s₁ (entryFrame m #[(.int p1)] 1)
  refine own_st (T' := s₁) (F' := (mkF m 0 #[.val (.int p1)] [])) (fun t k => castTop (by first | rfl | (simp [entryFrame, mkF, argsToLocals, Value.category]; done)) k) ?_
  refine own_st (T' := s₁) (F' := (mkF m 1 #[.val (.int p1)] [(.int p1)])) (fun t k => XS.iloadN X0.here hx rfl (hb hby d2_0) rfl k) ?_
  by_cases hc1_1 : p1 = (0 : Int32)
  · refine own_st (T' := s₁) (F' := (mkF m 4 #[.val (.int p1)] [])) (fun t k => XS.ifNo X0.here hx rfl (hb hby d2_1) rfl ((if0 _ _).trans (teq hc1_1).2) k) ?_
    refine own_st (T' := s₁) (F' := (mkF m 5 #[.val (.int p1)] [(.int (1 : Int32))])) (fun t k => XS.iconst X0.here hx rfl (hb hby d2_4) k) ?_
    exact own_retI X0 hx Bd.returns (hb hby d2_5) hlk (by show Q1 Z (.int r) h0 _ s₁.heap _; rw [e0]; exact ⟨by simp [hr, hc1_1], N, rfl⟩) (by decide) (by decide)
  · refine own_st (T' := s₁) (F' := (mkF m 6 #[.val (.int p1)] [])) (fun t k => XS.ifYes X0.here hx rfl (pc0 := 1) (pc' := 6) rfl (hb hby d2_1) rfl ((if0 _ _).trans (feq hc1_1).2) (by decide) (by decide) k) ?_
    refine own_st (T' := s₁) (F' := (mkF m 7 #[.val (.int p1)] [(.int p1)])) (fun t k => XS.iloadN X0.here hx rfl (hb hby d2_6) rfl k) ?_
    refine own_st (T' := s₁) (F' := (mkF m 8 #[.val (.int p1)] [(.int (1 : Int32)), (.int p1)])) (fun t k => XS.iconst X0.here hx rfl (hb hby d2_7) k) ?_
    by_cases hc8_2 : p1 = (1 : Int32)
    · refine own_st (T' := s₁) (F' := (mkF m 11 #[.val (.int p1)] [])) (fun t k => XS.icmpNo X0.here hx rfl (hb hby d2_8) rfl (teq hc8_2).2 k) ?_
      refine own_st (T' := s₁) (F' := (mkF m 12 #[.val (.int p1)] [(.int (2 : Int32))])) (fun t k => XS.iconst X0.here hx rfl (hb hby d2_11) k) ?_
      exact own_retI X0 hx Bd.returns (hb hby d2_12) hlk (by show Q1 Z (.int r) h0 _ s₁.heap _; rw [e0]; exact ⟨by simp [hr, hc1_1, hc8_2], N, rfl⟩) (by decide) (by decide)
    · refine own_st (T' := s₁) (F' := (mkF m 13 #[.val (.int p1)] [])) (fun t k => XS.icmpYes X0.here hx rfl (pc0 := 8) (pc' := 13) rfl (hb hby d2_8) rfl (feq hc8_2).2 (by decide) (by decide) k) ?_
      refine own_st (T' := s₁) (F' := (mkF m 14 #[.val (.int p1)] [(.int p1)])) (fun t k => XS.iloadN X0.here hx rfl (hb hby d2_13) rfl k) ?_
      refine own_st (T' := s₁) (F' := (mkF m 15 #[.val (.int p1)] [(.int (2 : Int32)), (.int p1)])) (fun t k => XS.iconst X0.here hx rfl (hb hby d2_14) k) ?_
      by_cases hc15_3 : p1 = (2 : Int32)
      · refine own_st (T' := s₁) (F' := (mkF m 18 #[.val (.int p1)] [])) (fun t k => XS.icmpNo X0.here hx rfl (hb hby d2_15) rfl (teq hc15_3).2 k) ?_
        refine own_st (T' := s₁) (F' := (mkF m 19 #[.val (.int p1)] [(.int (3 : Int32))])) (fun t k => XS.iconst X0.here hx rfl (hb hby d2_18) k) ?_
        exact own_retI X0 hx Bd.returns (hb hby d2_19) hlk (by show Q1 Z (.int r) h0 _ s₁.heap _; rw [e0]; exact ⟨by simp [hr, hc1_1, hc8_2, hc15_3], N, rfl⟩) (by decide) (by decide)
      · refine own_st (T' := s₁) (F' := (mkF m 20 #[.val (.int p1)] [])) (fun t k => XS.icmpYes X0.here hx rfl (pc0 := 15) (pc' := 20) rfl (hb hby d2_15) rfl (feq hc15_3).2 (by decide) (by decide) k) ?_
        refine own_st (T' := s₁) (F' := (mkF m 21 #[.val (.int p1)] [(.int (0 : Int32))])) (fun t k => XS.iconst X0.here hx rfl (hb hby d2_20) k) ?_
        exact own_retI X0 hx Bd.returns (hb hby d2_21) hlk (by show Q1 Z (.int r) h0 _ s₁.heap _; rw [e0]; exact ⟨by simp [hr, hc1_1, hc8_2, hc15_3], N, rfl⟩) (by decide) (by decide)
theorem d3_0 : decode prog_13_method_5_code 0 = .ok (.aload_n 0, 1) := by decide +kernel
theorem d3_1 : decode prog_13_method_5_code 1 = .ok (.getstatic 3, 3) := by decide +kernel
theorem d3_4 : decode prog_13_method_5_code 4 = .ok (.if_acmp .eq 10, 3) := by decide +kernel
theorem d3_7 : decode prog_13_method_5_code 7 = .ok (.aload_n 0, 1) := by decide +kernel
theorem d3_8 : decode prog_13_method_5_code 8 = .ok (.getstatic 10, 3) := by decide +kernel
theorem d3_11 : decode prog_13_method_5_code 11 = .ok (.if_acmp .ne 7, 3) := by decide +kernel
theorem d3_14 : decode prog_13_method_5_code 14 = .ok (.iconst 1, 1) := by decide +kernel
theorem d3_15 : decode prog_13_method_5_code 15 = .ok (.goto 4, 3) := by decide +kernel
theorem d3_18 : decode prog_13_method_5_code 18 = .ok (.iconst 0, 1) := by decide +kernel
theorem d3_19 : decode prog_13_method_5_code 19 = .ok (.ireturn, 1) := by decide +kernel
theorem pn_1 : plainName "com/example/nibbl/nibbl/auth/AclFile$Grant" = true := by first | (simp [plainName, overriddenIn]; done) | decide +kernel
set_option maxRecDepth 65536 in
set_option maxHeartbeats 40000000 in
theorem rm3 (l : Launch) (Z : State) (a0 : Array Value) {w_READ : Addr} {w_DENY : Addr} {w_READWRITE : Addr} {w_WRITE : Addr} (CX : Ctx Z a0 w_READ w_DENY w_READWRITE w_WRITE) (ws : List Jvm.Cond) (a1 : Addr) (r : Int32) (h0 : Heap) (O : Ext Z.heap h0) (hr : r = if a1 = w_READ then 1 else if a1 = w_READWRITE then 1 else 0) :
    MetFree l (⟨"com/example/nibbl/nibbl/auth/AclFile$Grant", "reads", "()Z"⟩ : MethodName) (head1 (Jvm.Cond.code (⟨"com/example/nibbl/nibbl/auth/AclFile$Grant", "reads", "()Z"⟩ : MethodName) prog_13_method_5_code 1 (some .boolean) :: ws) ({ frames := 0, cells := 0, slots := 0, locals := 0 } : Room)) (fun a U => a = #[(.ref a1)] ∧ Z.Warmed39 U.vm ∧ U.heap = h0) (fun _ _ _ _ _ => True) (fun _ U o U' => ∃ v L, o = .returned v ∧ Q1 Z (.int r) h0 v U'.heap L ∧ FrameEnd U o U' L ({ frames := 0, cells := 0, slots := 0, locals := 0 } : Room).cells ({ frames := 0, cells := 0, slots := 0, locals := 0 } : Room).slots) := by
  refine MetFree.of_bodySF (plainFor_of_name pn_1) hisR ?_
  intro p e s m args below meth c s₁ Bd hml0 hP hK
  obtain ⟨rfl, hZ, hh⟩ := hP
  have CX0 := CX
  obtain ⟨hw, S_READ, E_READ, S_DENY, E_DENY, S_READWRITE, E_READWRITE, S_WRITE, E_WRITE, O_DENY, O_READ, O_READWRITE, O_WRITE, -⟩ := CX0
  have hx := Bd.exec
  have hby := Bd.bytes
  have hml : c.maxLocals = 1 := hml0
  have hown : s.vm.findClass "com/example/nibbl/nibbl/auth/AclFile$Grant" = some m.cls := findClass_of_methodNamed Bd.named
  have hnm := (name_of_methodNamed Bd.named Bd.method).1
  have hlk : meth.locks = false := BodyLoose.notSynchronized Bd
  have X0 : Stand p l e ({ frames := 0, cells := 0, slots := 0, locals := 0 } : Room) s m #[(.ref a1)] below meth c s₁ [] 0 0 := Stand.of_body Bd
  have e0 : s₁.heap = h0 := by rw [← hh, Bd.state]; rfl
  have N := Fr.nil Z.heap.size
  show own_Done p.tables e below (own_R (Q1 Z (.int r) h0) s 0 0) s₁ (entryFrame m #[(.ref a1)] 1)
  refine own_st (T' := s₁) (F' := (mkF m 0 #[.val (.ref a1)] [])) (fun t k => castTop (by first | rfl | (simp [entryFrame, mkF, argsToLocals, Value.category]; done)) k) ?_
  refine own_st (T' := s₁) (F' := (mkF m 1 #[.val (.ref a1)] [(.ref a1)])) (fun t k => XS.aloadN X0.here hx rfl (hb hby d3_0) rfl rfl k) ?_
  obtain ⟨T1, X1, e1, st1⟩ := getS2 X0 hx hZ hown (host := "") (Or.inl (hw _ (List.mem_of_getElem? (i := 15) rfl))) Via.refl e0 (S_READ.ext O) (g := (mkF m 1 #[.val (.ref a1)] [(.ref a1)])) rfl (hb hby d3_1)
  refine own_st (T' := T1) (F' := (mkF m 4 #[.val (.ref a1)] [(.ref w_READ), (.ref a1)])) st1 ?_
  by_cases ha4_2 : a1 = w_READ
  · refine own_st (T' := T1) (F' := (mkF m 14 #[.val (.ref a1)] [])) (fun t k => Jvm.RoadKit.acmp (g := (mkF m 4 #[.val (.ref a1)] [(.ref w_READ), (.ref a1)])) X1 hx rfl rfl rfl (pc0 := 4) (pc' := 14) (same := true) rfl (hb hby d3_4) rfl (decide_eq_true (congrArg Value.ref ha4_2)) (by decide) (by decide) k) ?_
    refine own_st (T' := T1) (F' := (mkF m 15 #[.val (.ref a1)] [(.int (1 : Int32))])) (fun t k => XS.iconst X1.here hx rfl (hb hby d3_14) k) ?_
    refine own_st (T' := T1) (F' := (mkF m 19 #[.val (.ref a1)] [(.int (1 : Int32))])) (fun t k => XS.goto X1.here hx rfl (pc0 := 15) (pc' := 19) rfl (hb hby d3_15) (by decide) (by decide) k) ?_
    exact own_retN X1 hx (t := .boolean) Bd.returns (by simp) (by decide) (hb hby d3_19) hlk (by show Q1 Z (.int r) h0 _ T1.heap _; rw [e1]; exact ⟨by simp [hr, ha4_2], N, rfl⟩) (by decide) (by decide)
  · refine own_st (T' := T1) (F' := (mkF m 7 #[.val (.ref a1)] [])) (fun t k => Jvm.RoadKit.acmp (g := (mkF m 4 #[.val (.ref a1)] [(.ref w_READ), (.ref a1)])) X1 hx rfl rfl rfl (pc0 := 4) (pc' := 7) (same := false) rfl (hb hby d3_4) rfl (decide_eq_false fun q => ha4_2 (Value.ref.inj q)) (by decide) (by decide) k) ?_
    refine own_st (T' := T1) (F' := (mkF m 8 #[.val (.ref a1)] [(.ref a1)])) (fun t k => XS.aloadN X1.here hx rfl (hb hby d3_7) rfl rfl k) ?_
    obtain ⟨T3, X3, e3, st3⟩ := getS2 X1 hx hZ hown (host := "") (Or.inl (hw _ (List.mem_of_getElem? (i := 18) rfl))) Via.refl e1 (S_READWRITE.ext O) (g := (mkF m 8 #[.val (.ref a1)] [(.ref a1)])) rfl (hb hby d3_8)
    refine own_st (T' := T3) (F' := (mkF m 11 #[.val (.ref a1)] [(.ref w_READWRITE), (.ref a1)])) st3 ?_
    by_cases ha11_4 : a1 = w_READWRITE
    · refine own_st (T' := T3) (F' := (mkF m 14 #[.val (.ref a1)] [])) (fun t k => Jvm.RoadKit.acmp (g := (mkF m 11 #[.val (.ref a1)] [(.ref w_READWRITE), (.ref a1)])) X3 hx rfl rfl rfl (pc0 := 11) (pc' := 14) (same := true) rfl (hb hby d3_11) rfl (decide_eq_true (congrArg Value.ref ha11_4)) (by decide) (by decide) k) ?_
      refine own_st (T' := T3) (F' := (mkF m 15 #[.val (.ref a1)] [(.int (1 : Int32))])) (fun t k => XS.iconst X3.here hx rfl (hb hby d3_14) k) ?_
      refine own_st (T' := T3) (F' := (mkF m 19 #[.val (.ref a1)] [(.int (1 : Int32))])) (fun t k => XS.goto X3.here hx rfl (pc0 := 15) (pc' := 19) rfl (hb hby d3_15) (by decide) (by decide) k) ?_
      exact own_retN X3 hx (t := .boolean) Bd.returns (by simp) (by decide) (hb hby d3_19) hlk (by show Q1 Z (.int r) h0 _ T3.heap _; rw [e3]; exact ⟨by simp [hr, ha4_2, ha11_4], N, rfl⟩) (by decide) (by decide)
    · refine own_st (T' := T3) (F' := (mkF m 18 #[.val (.ref a1)] [])) (fun t k => Jvm.RoadKit.acmp (g := (mkF m 11 #[.val (.ref a1)] [(.ref w_READWRITE), (.ref a1)])) X3 hx rfl rfl rfl (pc0 := 11) (pc' := 18) (same := false) rfl (hb hby d3_11) rfl (decide_eq_false fun q => ha11_4 (Value.ref.inj q)) (by decide) (by decide) k) ?_
      refine own_st (T' := T3) (F' := (mkF m 19 #[.val (.ref a1)] [(.int (0 : Int32))])) (fun t k => XS.iconst X3.here hx rfl (hb hby d3_18) k) ?_
      exact own_retN X3 hx (t := .boolean) Bd.returns (by simp) (by decide) (hb hby d3_19) hlk (by show Q1 Z (.int r) h0 _ T3.heap _; rw [e3]; exact ⟨by simp [hr, ha4_2, ha11_4], N, rfl⟩) (by decide) (by decide)
theorem pd_0 : parseMethodDescriptor "(I)Lcom/example/nibbl/nibbl/auth/AclFile$Grant;" = some ⟨[.int], some (.object "com/example/nibbl/nibbl/auth/AclFile$Grant")⟩ := by decide +kernel
theorem pd_1 : parseMethodDescriptor "(I)I" = some ⟨[.int], some .int⟩ := by decide +kernel
theorem pd_2 : parseMethodDescriptor "()Z" = some ⟨[], some .boolean⟩ := by decide +kernel
set_option maxRecDepth 65536 in
set_option maxHeartbeats 40000000 in
theorem rm0 (l : Launch) (Z : State) (a0 : Array Value) {w_READ : Addr} {w_DENY : Addr} {w_READWRITE : Addr} {w_WRITE : Addr} (CX : Ctx Z a0 w_READ w_DENY w_READWRITE w_WRITE) (ws : List Jvm.Cond) (x0 : Int32) (h0 : Heap) (O : Ext Z.heap h0)  :
    MetFree l x (head1 (Jvm.Cond.code x code maxLocals ret :: ws) room_1) (fun a U => a = #[(.int x0)] ∧ Z.Warmed39 U.vm ∧ U.heap = h0) (fun _ _ _ _ _ => True) (fun _ U o U' => ∃ v L, o = .returned v ∧ Q0 Z v U'.heap L ∧ FrameEnd U o U' L room_1.cells room_1.slots) := by
  refine MetFree.of_bodySF (plainFor_of_name pn_0) hisR ?_
  intro p e s m args below meth c s₁ Bd hml0 hP hK
  obtain ⟨rfl, hZ, hh⟩ := hP
  have CX0 := CX
  obtain ⟨hw, S_READ, E_READ, S_DENY, E_DENY, S_READWRITE, E_READWRITE, S_WRITE, E_WRITE, O_DENY, O_READ, O_READWRITE, O_WRITE, -⟩ := CX0
  have hx := Bd.exec
  have hby := Bd.bytes
  have hml : c.maxLocals = 4 := hml0
  have hown : s.vm.findClass "com/example/nibbl/nibbl/auth/GrantReadsPinLaw" = some m.cls := findClass_of_methodNamed Bd.named
  have hnm := (name_of_methodNamed Bd.named Bd.method).1
  have hlk : meth.locks = false := BodyLoose.notSynchronized Bd
  have X0 : Stand p l e room_1 s m #[(.int x0)] below meth c s₁ [] 0 0 := Stand.of_body Bd
  have e0 : s₁.heap = h0 := by rw [← hh, Bd.state]; rfl
  have N := Fr.nil Z.heap.size
  show own_Done p.tables e below (own_R (Q0 Z) s 0 0) s₁ (entryFrame m #[(.int x0)] maxLocals)
  refine own_st (T' := s₁) (F' := (mkF m 0 #[.val (.int x0), .unset, .unset, .unset] [])) (fun t k => castTop (by first | rfl | (simp [entryFrame, mkF, argsToLocals, Value.category, maxLocals]; done)) k) ?_
  by_cases hk0_1 : (x0 &&& (3 : Int32)) = (0 : Int32)
  · refine own_st (T' := s₁) (F' := (mkF m 1 #[.val (.int x0), .unset, .unset, .unset] [(.int x0)])) (fun t k => XS.iloadN X0.here hx rfl (hb hby at_0) rfl k) ?_
    refine own_st (T' := s₁) (F' := (mkF m 2 #[.val (.int x0), .unset, .unset, .unset] [(.int (3 : Int32)), (.int x0)])) (fun t k => XS.iconst X0.here hx rfl (hb hby at_1) k) ?_
    refine own_st (T' := s₁) (F' := (mkF m 3 #[.val (.int x0), .unset, .unset, .unset] [(.int (x0 &&& (3 : Int32)))])) (fun t k => XS.iand X0.here hx rfl (hb hby at_2) rfl k) ?_
    refine own_st (T' := s₁) (F' := (mkF m 4 #[.val (.int x0), .val (.int (x0 &&& (3 : Int32))), .unset, .unset] [])) (fun t k => XS.istoreN X0.here hx rfl (hb hby at_3) rfl (l' := #[.val (.int x0), .val (.int (x0 &&& (3 : Int32))), .unset, .unset]) rfl k) ?_
    refine own_st (T' := s₁) (F' := (mkF m 5 #[.val (.int x0), .val (.int (x0 &&& (3 : Int32))), .unset, .unset] [(.int (x0 &&& (3 : Int32)))])) (fun t k => XS.iloadN X0.here hx rfl (hb hby at_4) rfl k) ?_
    obtain ⟨v2, _, ⟨T2, L2, k2, n2⟩, -, X2, ⟨Lc2, hQ2, l2, y2, z2⟩, st2⟩ := Jvm.LawKit.callS X0 hx (y := (⟨"com/example/nibbl/nibbl/auth/GrantReadsPinLaw", "grant", "(I)Lcom/example/nibbl/nibbl/auth/AclFile$Grant;"⟩ : MethodName)) hown (mvT hZ (hw _ (List.mem_of_getElem? (i := 0) rfl))) (mvT hZ (hw _ (List.mem_of_getElem? (i := 1) rfl))) (mvT hZ (hw _ (List.mem_of_getElem? (i := 2) rfl))) (mvT hZ (hw _ (List.mem_of_getElem? (i := 3) rfl))) (by decide) (backOf (W := 0) (rm1 l Z a0 CX [] (x0 &&& (3 : Int32)) w_READ h0 O (by simp [hk0_1])) hZ (hw _ (List.mem_of_getElem? (i := 3) rfl)) (hw _ (List.mem_of_getElem? (i := 2) rfl)) (by decide) (by decide)) (g := (mkF m 5 #[.val (.int x0), .val (.int (x0 &&& (3 : Int32))), .unset, .unset] [(.int (x0 &&& (3 : Int32)))])) rfl (by rw [hml]; rfl) (argsL := [(.int (x0 &&& (3 : Int32)))]) (rest := []) (lenOf pd_0 rfl) rfl (by show 2 * 0 + _ ≤ _; exact Nat.le_of_eq rfl) (hb hby at_5) (fun _ _ => ⟨rfl, e0, (by decide : 0 + 0 ≤ _), (by decide : 0 + 0 ≤ _)⟩)
    dsimp only [Pt.U, Pt.locs, Pt.cells, Pt.slots] at X2 l2 y2 z2 st2 hQ2
    subst l2 y2 z2
    obtain ⟨rfl, N2q, e2⟩ := hQ2
    have N := Fr.app N N2q
    refine own_st (T' := T2) (F' := (mkF m 8 #[.val (.int x0), .val (.int (x0 &&& (3 : Int32))), .unset, .unset] [(.ref w_READ)])) st2 ?_
    refine own_st (T' := T2) (F' := (mkF m 9 #[.val (.int x0), .val (.int (x0 &&& (3 : Int32))), .val (.ref w_READ), .unset] [])) (fun t k => XS.astoreN X2.here hx rfl (hb hby at_8) rfl rfl (l' := #[.val (.int x0), .val (.int (x0 &&& (3 : Int32))), .val (.ref w_READ), .unset]) rfl k) ?_
    refine own_st (T' := T2) (F' := (mkF m 10 #[.val (.int x0), .val (.int (x0 &&& (3 : Int32))), .val (.ref w_READ), .unset] [(.int (x0 &&& (3 : Int32)))])) (fun t k => XS.iloadN X2.here hx rfl (hb hby at_9) rfl k) ?_
    obtain ⟨v3, _, ⟨T3, L3, k3, n3⟩, -, X3, ⟨Lc3, hQ3, l3, y3, z3⟩, st3⟩ := Jvm.LawKit.callS X2 hx (y := (⟨"com/example/nibbl/nibbl/auth/GrantReadsPinLaw", "accesses", "(I)I"⟩ : MethodName)) hown (mvT hZ (hw _ (List.mem_of_getElem? (i := 7) rfl))) (mvT hZ (hw _ (List.mem_of_getElem? (i := 8) rfl))) (mvT hZ (hw _ (List.mem_of_getElem? (i := 2) rfl))) (mvT hZ (hw _ (List.mem_of_getElem? (i := 9) rfl))) (by decide) (backOf (W := 0) (rm2 l Z a0 CX [] (x0 &&& (3 : Int32)) (1 : Int32) h0 O (by simp [hk0_1])) hZ (hw _ (List.mem_of_getElem? (i := 9) rfl)) (hw _ (List.mem_of_getElem? (i := 2) rfl)) (by decide) (by decide)) (g := (mkF m 10 #[.val (.int x0), .val (.int (x0 &&& (3 : Int32))), .val (.ref w_READ), .unset] [(.int (x0 &&& (3 : Int32)))])) rfl (by rw [hml]; rfl) (argsL := [(.int (x0 &&& (3 : Int32)))]) (rest := []) (lenOf pd_1 rfl) rfl (by show 2 * 0 + _ ≤ _; exact Nat.le_of_eq rfl) (hb hby at_10) (fun _ _ => ⟨rfl, e2, (by decide : 0 + 0 ≤ _), (by decide : 0 + 0 ≤ _)⟩)
    dsimp only [Pt.U, Pt.locs, Pt.cells, Pt.slots] at X3 l3 y3 z3 st3 hQ3
    subst l3 y3 z3
    obtain ⟨rfl, N3q, e3⟩ := hQ3
    have N := Fr.app N N3q
    refine own_st (T' := T3) (F' := (mkF m 13 #[.val (.int x0), .val (.int (x0 &&& (3 : Int32))), .val (.ref w_READ), .unset] [(.int (1 : Int32))])) st3 ?_
    refine own_st (T' := T3) (F' := (mkF m 14 #[.val (.int x0), .val (.int (x0 &&& (3 : Int32))), .val (.ref w_READ), .unset] [(.int (1 : Int32)), (.int (1 : Int32))])) (fun t k => XS.iconst X3.here hx rfl (hb hby at_13) k) ?_
    refine own_st (T' := T3) (F' := (mkF m 15 #[.val (.int x0), .val (.int (x0 &&& (3 : Int32))), .val (.ref w_READ), .unset] [(.int (1 : Int32))])) (fun t k => XS.iand X3.here hx rfl (hb hby at_14) rfl k) ?_
    refine own_st (T' := T3) (F' := (mkF m 18 #[.val (.int x0), .val (.int (x0 &&& (3 : Int32))), .val (.ref w_READ), .unset] [])) (fun t k => XS.ifNo X3.here hx rfl (hb hby at_15) rfl ((if0 _ _).trans (feq (by decide : ¬ ((1 : Int32) = (0 : Int32)))).1) k) ?_
    refine own_st (T' := T3) (F' := (mkF m 19 #[.val (.int x0), .val (.int (x0 &&& (3 : Int32))), .val (.ref w_READ), .unset] [(.int (1 : Int32))])) (fun t k => XS.iconst X3.here hx rfl (hb hby at_18) k) ?_
    refine own_st (T' := T3) (F' := (mkF m 23 #[.val (.int x0), .val (.int (x0 &&& (3 : Int32))), .val (.ref w_READ), .unset] [(.int (1 : Int32))])) (fun t k => XS.goto X3.here hx rfl (pc0 := 19) (pc' := 23) rfl (hb hby at_19) (by decide) (by decide) k) ?_
    refine own_st (T' := T3) (F' := (mkF m 24 #[.val (.int x0), .val (.int (x0 &&& (3 : Int32))), .val (.ref w_READ), .val (.int (1 : Int32))] [])) (fun t k => XS.istoreN X3.here hx rfl (hb hby at_23) rfl (l' := #[.val (.int x0), .val (.int (x0 &&& (3 : Int32))), .val (.ref w_READ), .val (.int (1 : Int32))]) rfl k) ?_
    refine own_st (T' := T3) (F' := (mkF m 25 #[.val (.int x0), .val (.int (x0 &&& (3 : Int32))), .val (.ref w_READ), .val (.int (1 : Int32))] [(.ref w_READ)])) (fun t k => XS.aloadN X3.here hx rfl (hb hby at_24) rfl rfl k) ?_
    obtain ⟨cq4, kq4, q4a, q4b, q4c⟩ := isOf hZ e3 (E_READ.ext O)
    obtain ⟨v4, _, ⟨T4, L4, k4, n4⟩, -, X4, ⟨Lc4, hQ4, l4, y4, z4⟩, st4⟩ := X3.virtualBack hx (y := (⟨"com/example/nibbl/nibbl/auth/AclFile$Grant", "reads", "()Z"⟩ : MethodName)) (z := (⟨"com/example/nibbl/nibbl/auth/AclFile$Grant", "reads", "()Z"⟩ : MethodName)) hown (mvT hZ (hw _ (List.mem_of_getElem? (i := 10) rfl))) (mvT hZ (hw _ (List.mem_of_getElem? (i := 11) rfl))) (notFace_of_selects (args := #[]) (mvT hZ (hw _ (List.mem_of_getElem? (i := 13) rfl)))) (mvT hZ (hw _ (List.mem_of_getElem? (i := 13) rfl))) (mvT hZ (hw _ (List.mem_of_getElem? (i := 12) rfl))) (by decide) (backOf (W := 0) (rm3 l Z a0 CX [] w_READ (1 : Int32) h0 O (by simp [(O_READ.ne O_READWRITE (by decide))])) hZ (hw _ (List.mem_of_getElem? (i := 14) rfl)) (hw _ (List.mem_of_getElem? (i := 5) rfl)) (by decide) (by decide)) q4a q4c (g := (mkF m 25 #[.val (.int x0), .val (.int (x0 &&& (3 : Int32))), .val (.ref w_READ), .val (.int (1 : Int32))] [(.ref w_READ)])) rfl (by rw [hml]; rfl) (Steps.refl _) (argsL := []) (rest := []) (lenOf pd_2 rfl) rfl (by show 2 * 0 + _ ≤ _; exact Nat.le_of_eq rfl) (hb hby at_25) (fun _ _ => ⟨rfl, e3, (by decide : 0 + 0 ≤ _), (by decide : 0 + 0 ≤ _)⟩)
    dsimp only [Pt.U, Pt.locs, Pt.cells, Pt.slots] at X4 l4 y4 z4 st4 hQ4
    subst l4 y4 z4
    obtain ⟨rfl, N4q, e4⟩ := hQ4
    have N := Fr.app N N4q
    refine own_tr (T' := T4) (F' := (mkF m 28 #[.val (.int x0), .val (.int (x0 &&& (3 : Int32))), .val (.ref w_READ), .val (.int (1 : Int32))] [(.int (1 : Int32))])) st4 ?_
    refine own_st (T' := T4) (F' := (mkF m 29 #[.val (.int x0), .val (.int (x0 &&& (3 : Int32))), .val (.ref w_READ), .val (.int (1 : Int32))] [(.int (1 : Int32)), (.int (1 : Int32))])) (fun t k => XS.iloadN X4.here hx rfl (hb hby at_28) rfl k) ?_
    refine own_st (T' := T4) (F' := (mkF m 32 #[.val (.int x0), .val (.int (x0 &&& (3 : Int32))), .val (.ref w_READ), .val (.int (1 : Int32))] [])) (fun t k => XS.icmpNo X4.here hx rfl (hb hby at_29) rfl (teq rfl).2 k) ?_
    refine own_st (T' := T4) (F' := (mkF m 33 #[.val (.int x0), .val (.int (x0 &&& (3 : Int32))), .val (.ref w_READ), .val (.int (1 : Int32))] [(.int (1 : Int32))])) (fun t k => XS.iconst X4.here hx rfl (hb hby at_32) k) ?_
    refine own_st (T' := T4) (F' := (mkF m 37 #[.val (.int x0), .val (.int (x0 &&& (3 : Int32))), .val (.ref w_READ), .val (.int (1 : Int32))] [(.int (1 : Int32))])) (fun t k => XS.goto X4.here hx rfl (pc0 := 33) (pc' := 37) rfl (hb hby at_33) (by decide) (by decide) k) ?_
    exact own_retN X4 hx (t := .boolean) Bd.returns (by simp) (by decide) (hb hby at_37) hlk (by show Q0 Z _ T4.heap _; rw [e4]; exact ⟨rfl, N⟩) (by decide) (by decide)
  · by_cases hk1_5 : (x0 &&& (3 : Int32)) = (1 : Int32)
    · refine own_st (T' := s₁) (F' := (mkF m 1 #[.val (.int x0), .unset, .unset, .unset] [(.int x0)])) (fun t k => XS.iloadN X0.here hx rfl (hb hby at_0) rfl k) ?_
      refine own_st (T' := s₁) (F' := (mkF m 2 #[.val (.int x0), .unset, .unset, .unset] [(.int (3 : Int32)), (.int x0)])) (fun t k => XS.iconst X0.here hx rfl (hb hby at_1) k) ?_
      refine own_st (T' := s₁) (F' := (mkF m 3 #[.val (.int x0), .unset, .unset, .unset] [(.int (x0 &&& (3 : Int32)))])) (fun t k => XS.iand X0.here hx rfl (hb hby at_2) rfl k) ?_
      refine own_st (T' := s₁) (F' := (mkF m 4 #[.val (.int x0), .val (.int (x0 &&& (3 : Int32))), .unset, .unset] [])) (fun t k => XS.istoreN X0.here hx rfl (hb hby at_3) rfl (l' := #[.val (.int x0), .val (.int (x0 &&& (3 : Int32))), .unset, .unset]) rfl k) ?_
      refine own_st (T' := s₁) (F' := (mkF m 5 #[.val (.int x0), .val (.int (x0 &&& (3 : Int32))), .unset, .unset] [(.int (x0 &&& (3 : Int32)))])) (fun t k => XS.iloadN X0.here hx rfl (hb hby at_4) rfl k) ?_
      obtain ⟨v6, _, ⟨T6, L6, k6, n6⟩, -, X6, ⟨Lc6, hQ6, l6, y6, z6⟩, st6⟩ := Jvm.LawKit.callS X0 hx (y := (⟨"com/example/nibbl/nibbl/auth/GrantReadsPinLaw", "grant", "(I)Lcom/example/nibbl/nibbl/auth/AclFile$Grant;"⟩ : MethodName)) hown (mvT hZ (hw _ (List.mem_of_getElem? (i := 0) rfl))) (mvT hZ (hw _ (List.mem_of_getElem? (i := 1) rfl))) (mvT hZ (hw _ (List.mem_of_getElem? (i := 2) rfl))) (mvT hZ (hw _ (List.mem_of_getElem? (i := 3) rfl))) (by decide) (backOf (W := 0) (rm1 l Z a0 CX [] (x0 &&& (3 : Int32)) w_WRITE h0 O (by simp [hk0_1, hk1_5])) hZ (hw _ (List.mem_of_getElem? (i := 3) rfl)) (hw _ (List.mem_of_getElem? (i := 2) rfl)) (by decide) (by decide)) (g := (mkF m 5 #[.val (.int x0), .val (.int (x0 &&& (3 : Int32))), .unset, .unset] [(.int (x0 &&& (3 : Int32)))])) rfl (by rw [hml]; rfl) (argsL := [(.int (x0 &&& (3 : Int32)))]) (rest := []) (lenOf pd_0 rfl) rfl (by show 2 * 0 + _ ≤ _; exact Nat.le_of_eq rfl) (hb hby at_5) (fun _ _ => ⟨rfl, e0, (by decide : 0 + 0 ≤ _), (by decide : 0 + 0 ≤ _)⟩)
      dsimp only [Pt.U, Pt.locs, Pt.cells, Pt.slots] at X6 l6 y6 z6 st6 hQ6
      subst l6 y6 z6
      obtain ⟨rfl, N6q, e6⟩ := hQ6
      have N := Fr.app N N6q
      refine own_st (T' := T6) (F' := (mkF m 8 #[.val (.int x0), .val (.int (x0 &&& (3 : Int32))), .unset, .unset] [(.ref w_WRITE)])) st6 ?_
      refine own_st (T' := T6) (F' := (mkF m 9 #[.val (.int x0), .val (.int (x0 &&& (3 : Int32))), .val (.ref w_WRITE), .unset] [])) (fun t k => XS.astoreN X6.here hx rfl (hb hby at_8) rfl rfl (l' := #[.val (.int x0), .val (.int (x0 &&& (3 : Int32))), .val (.ref w_WRITE), .unset]) rfl k) ?_
      refine own_st (T' := T6) (F' := (mkF m 10 #[.val (.int x0), .val (.int (x0 &&& (3 : Int32))), .val (.ref w_WRITE), .unset] [(.int (x0 &&& (3 : Int32)))])) (fun t k => XS.iloadN X6.here hx rfl (hb hby at_9) rfl k) ?_
      obtain ⟨v7, _, ⟨T7, L7, k7, n7⟩, -, X7, ⟨Lc7, hQ7, l7, y7, z7⟩, st7⟩ := Jvm.LawKit.callS X6 hx (y := (⟨"com/example/nibbl/nibbl/auth/GrantReadsPinLaw", "accesses", "(I)I"⟩ : MethodName)) hown (mvT hZ (hw _ (List.mem_of_getElem? (i := 7) rfl))) (mvT hZ (hw _ (List.mem_of_getElem? (i := 8) rfl))) (mvT hZ (hw _ (List.mem_of_getElem? (i := 2) rfl))) (mvT hZ (hw _ (List.mem_of_getElem? (i := 9) rfl))) (by decide) (backOf (W := 0) (rm2 l Z a0 CX [] (x0 &&& (3 : Int32)) (2 : Int32) h0 O (by simp [hk0_1, hk1_5])) hZ (hw _ (List.mem_of_getElem? (i := 9) rfl)) (hw _ (List.mem_of_getElem? (i := 2) rfl)) (by decide) (by decide)) (g := (mkF m 10 #[.val (.int x0), .val (.int (x0 &&& (3 : Int32))), .val (.ref w_WRITE), .unset] [(.int (x0 &&& (3 : Int32)))])) rfl (by rw [hml]; rfl) (argsL := [(.int (x0 &&& (3 : Int32)))]) (rest := []) (lenOf pd_1 rfl) rfl (by show 2 * 0 + _ ≤ _; exact Nat.le_of_eq rfl) (hb hby at_10) (fun _ _ => ⟨rfl, e6, (by decide : 0 + 0 ≤ _), (by decide : 0 + 0 ≤ _)⟩)
      dsimp only [Pt.U, Pt.locs, Pt.cells, Pt.slots] at X7 l7 y7 z7 st7 hQ7
      subst l7 y7 z7
      obtain ⟨rfl, N7q, e7⟩ := hQ7
      have N := Fr.app N N7q
      refine own_st (T' := T7) (F' := (mkF m 13 #[.val (.int x0), .val (.int (x0 &&& (3 : Int32))), .val (.ref w_WRITE), .unset] [(.int (2 : Int32))])) st7 ?_
      refine own_st (T' := T7) (F' := (mkF m 14 #[.val (.int x0), .val (.int (x0 &&& (3 : Int32))), .val (.ref w_WRITE), .unset] [(.int (1 : Int32)), (.int (2 : Int32))])) (fun t k => XS.iconst X7.here hx rfl (hb hby at_13) k) ?_
      refine own_st (T' := T7) (F' := (mkF m 15 #[.val (.int x0), .val (.int (x0 &&& (3 : Int32))), .val (.ref w_WRITE), .unset] [(.int (0 : Int32))])) (fun t k => XS.iand X7.here hx rfl (hb hby at_14) rfl k) ?_
      refine own_st (T' := T7) (F' := (mkF m 22 #[.val (.int x0), .val (.int (x0 &&& (3 : Int32))), .val (.ref w_WRITE), .unset] [])) (fun t k => XS.ifYes X7.here hx rfl (pc0 := 15) (pc' := 22) rfl (hb hby at_15) rfl ((if0 _ _).trans (teq rfl).1) (by decide) (by decide) k) ?_
      refine own_st (T' := T7) (F' := (mkF m 23 #[.val (.int x0), .val (.int (x0 &&& (3 : Int32))), .val (.ref w_WRITE), .unset] [(.int (0 : Int32))])) (fun t k => XS.iconst X7.here hx rfl (hb hby at_22) k) ?_
      refine own_st (T' := T7) (F' := (mkF m 24 #[.val (.int x0), .val (.int (x0 &&& (3 : Int32))), .val (.ref w_WRITE), .val (.int (0 : Int32))] [])) (fun t k => XS.istoreN X7.here hx rfl (hb hby at_23) rfl (l' := #[.val (.int x0), .val (.int (x0 &&& (3 : Int32))), .val (.ref w_WRITE), .val (.int (0 : Int32))]) rfl k) ?_
      refine own_st (T' := T7) (F' := (mkF m 25 #[.val (.int x0), .val (.int (x0 &&& (3 : Int32))), .val (.ref w_WRITE), .val (.int (0 : Int32))] [(.ref w_WRITE)])) (fun t k => XS.aloadN X7.here hx rfl (hb hby at_24) rfl rfl k) ?_
      obtain ⟨cq8, kq8, q8a, q8b, q8c⟩ := isOf hZ e7 (E_WRITE.ext O)
      obtain ⟨v8, _, ⟨T8, L8, k8, n8⟩, -, X8, ⟨Lc8, hQ8, l8, y8, z8⟩, st8⟩ := X7.virtualBack hx (y := (⟨"com/example/nibbl/nibbl/auth/AclFile$Grant", "reads", "()Z"⟩ : MethodName)) (z := (⟨"com/example/nibbl/nibbl/auth/AclFile$Grant", "reads", "()Z"⟩ : MethodName)) hown (mvT hZ (hw _ (List.mem_of_getElem? (i := 10) rfl))) (mvT hZ (hw _ (List.mem_of_getElem? (i := 11) rfl))) (notFace_of_selects (args := #[]) (mvT hZ (hw _ (List.mem_of_getElem? (i := 13) rfl)))) (mvT hZ (hw _ (List.mem_of_getElem? (i := 13) rfl))) (mvT hZ (hw _ (List.mem_of_getElem? (i := 12) rfl))) (by decide) (backOf (W := 0) (rm3 l Z a0 CX [] w_WRITE (0 : Int32) h0 O (by simp [(O_WRITE.ne O_READ (by decide)), (O_WRITE.ne O_READWRITE (by decide))])) hZ (hw _ (List.mem_of_getElem? (i := 14) rfl)) (hw _ (List.mem_of_getElem? (i := 5) rfl)) (by decide) (by decide)) q8a q8c (g := (mkF m 25 #[.val (.int x0), .val (.int (x0 &&& (3 : Int32))), .val (.ref w_WRITE), .val (.int (0 : Int32))] [(.ref w_WRITE)])) rfl (by rw [hml]; rfl) (Steps.refl _) (argsL := []) (rest := []) (lenOf pd_2 rfl) rfl (by show 2 * 0 + _ ≤ _; exact Nat.le_of_eq rfl) (hb hby at_25) (fun _ _ => ⟨rfl, e7, (by decide : 0 + 0 ≤ _), (by decide : 0 + 0 ≤ _)⟩)
      dsimp only [Pt.U, Pt.locs, Pt.cells, Pt.slots] at X8 l8 y8 z8 st8 hQ8
      subst l8 y8 z8
      obtain ⟨rfl, N8q, e8⟩ := hQ8
      have N := Fr.app N N8q
      refine own_tr (T' := T8) (F' := (mkF m 28 #[.val (.int x0), .val (.int (x0 &&& (3 : Int32))), .val (.ref w_WRITE), .val (.int (0 : Int32))] [(.int (0 : Int32))])) st8 ?_
      refine own_st (T' := T8) (F' := (mkF m 29 #[.val (.int x0), .val (.int (x0 &&& (3 : Int32))), .val (.ref w_WRITE), .val (.int (0 : Int32))] [(.int (0 : Int32)), (.int (0 : Int32))])) (fun t k => XS.iloadN X8.here hx rfl (hb hby at_28) rfl k) ?_
      refine own_st (T' := T8) (F' := (mkF m 32 #[.val (.int x0), .val (.int (x0 &&& (3 : Int32))), .val (.ref w_WRITE), .val (.int (0 : Int32))] [])) (fun t k => XS.icmpNo X8.here hx rfl (hb hby at_29) rfl (teq rfl).2 k) ?_
      refine own_st (T' := T8) (F' := (mkF m 33 #[.val (.int x0), .val (.int (x0 &&& (3 : Int32))), .val (.ref w_WRITE), .val (.int (0 : Int32))] [(.int (1 : Int32))])) (fun t k => XS.iconst X8.here hx rfl (hb hby at_32) k) ?_
      refine own_st (T' := T8) (F' := (mkF m 37 #[.val (.int x0), .val (.int (x0 &&& (3 : Int32))), .val (.ref w_WRITE), .val (.int (0 : Int32))] [(.int (1 : Int32))])) (fun t k => XS.goto X8.here hx rfl (pc0 := 33) (pc' := 37) rfl (hb hby at_33) (by decide) (by decide) k) ?_
      exact own_retN X8 hx (t := .boolean) Bd.returns (by simp) (by decide) (hb hby at_37) hlk (by show Q0 Z _ T8.heap _; rw [e8]; exact ⟨rfl, N⟩) (by decide) (by decide)
    · by_cases hk2_9 : (x0 &&& (3 : Int32)) = (2 : Int32)
      · refine own_st (T' := s₁) (F' := (mkF m 1 #[.val (.int x0), .unset, .unset, .unset] [(.int x0)])) (fun t k => XS.iloadN X0.here hx rfl (hb hby at_0) rfl k) ?_
        refine own_st (T' := s₁) (F' := (mkF m 2 #[.val (.int x0), .unset, .unset, .unset] [(.int (3 : Int32)), (.int x0)])) (fun t k => XS.iconst X0.here hx rfl (hb hby at_1) k) ?_
        refine own_st (T' := s₁) (F' := (mkF m 3 #[.val (.int x0), .unset, .unset, .unset] [(.int (x0 &&& (3 : Int32)))])) (fun t k => XS.iand X0.here hx rfl (hb hby at_2) rfl k) ?_
        refine own_st (T' := s₁) (F' := (mkF m 4 #[.val (.int x0), .val (.int (x0 &&& (3 : Int32))), .unset, .unset] [])) (fun t k => XS.istoreN X0.here hx rfl (hb hby at_3) rfl (l' := #[.val (.int x0), .val (.int (x0 &&& (3 : Int32))), .unset, .unset]) rfl k) ?_
        refine own_st (T' := s₁) (F' := (mkF m 5 #[.val (.int x0), .val (.int (x0 &&& (3 : Int32))), .unset, .unset] [(.int (x0 &&& (3 : Int32)))])) (fun t k => XS.iloadN X0.here hx rfl (hb hby at_4) rfl k) ?_
        obtain ⟨v10, _, ⟨T10, L10, k10, n10⟩, -, X10, ⟨Lc10, hQ10, l10, y10, z10⟩, st10⟩ := Jvm.LawKit.callS X0 hx (y := (⟨"com/example/nibbl/nibbl/auth/GrantReadsPinLaw", "grant", "(I)Lcom/example/nibbl/nibbl/auth/AclFile$Grant;"⟩ : MethodName)) hown (mvT hZ (hw _ (List.mem_of_getElem? (i := 0) rfl))) (mvT hZ (hw _ (List.mem_of_getElem? (i := 1) rfl))) (mvT hZ (hw _ (List.mem_of_getElem? (i := 2) rfl))) (mvT hZ (hw _ (List.mem_of_getElem? (i := 3) rfl))) (by decide) (backOf (W := 0) (rm1 l Z a0 CX [] (x0 &&& (3 : Int32)) w_READWRITE h0 O (by simp [hk0_1, hk1_5, hk2_9])) hZ (hw _ (List.mem_of_getElem? (i := 3) rfl)) (hw _ (List.mem_of_getElem? (i := 2) rfl)) (by decide) (by decide)) (g := (mkF m 5 #[.val (.int x0), .val (.int (x0 &&& (3 : Int32))), .unset, .unset] [(.int (x0 &&& (3 : Int32)))])) rfl (by rw [hml]; rfl) (argsL := [(.int (x0 &&& (3 : Int32)))]) (rest := []) (lenOf pd_0 rfl) rfl (by show 2 * 0 + _ ≤ _; exact Nat.le_of_eq rfl) (hb hby at_5) (fun _ _ => ⟨rfl, e0, (by decide : 0 + 0 ≤ _), (by decide : 0 + 0 ≤ _)⟩)
        dsimp only [Pt.U, Pt.locs, Pt.cells, Pt.slots] at X10 l10 y10 z10 st10 hQ10
        subst l10 y10 z10
        obtain ⟨rfl, N10q, e10⟩ := hQ10
        have N := Fr.app N N10q
        refine own_st (T' := T10) (F' := (mkF m 8 #[.val (.int x0), .val (.int (x0 &&& (3 : Int32))), .unset, .unset] [(.ref w_READWRITE)])) st10 ?_
        refine own_st (T' := T10) (F' := (mkF m 9 #[.val (.int x0), .val (.int (x0 &&& (3 : Int32))), .val (.ref w_READWRITE), .unset] [])) (fun t k => XS.astoreN X10.here hx rfl (hb hby at_8) rfl rfl (l' := #[.val (.int x0), .val (.int (x0 &&& (3 : Int32))), .val (.ref w_READWRITE), .unset]) rfl k) ?_
        refine own_st (T' := T10) (F' := (mkF m 10 #[.val (.int x0), .val (.int (x0 &&& (3 : Int32))), .val (.ref w_READWRITE), .unset] [(.int (x0 &&& (3 : Int32)))])) (fun t k => XS.iloadN X10.here hx rfl (hb hby at_9) rfl k) ?_
        obtain ⟨v11, _, ⟨T11, L11, k11, n11⟩, -, X11, ⟨Lc11, hQ11, l11, y11, z11⟩, st11⟩ := Jvm.LawKit.callS X10 hx (y := (⟨"com/example/nibbl/nibbl/auth/GrantReadsPinLaw", "accesses", "(I)I"⟩ : MethodName)) hown (mvT hZ (hw _ (List.mem_of_getElem? (i := 7) rfl))) (mvT hZ (hw _ (List.mem_of_getElem? (i := 8) rfl))) (mvT hZ (hw _ (List.mem_of_getElem? (i := 2) rfl))) (mvT hZ (hw _ (List.mem_of_getElem? (i := 9) rfl))) (by decide) (backOf (W := 0) (rm2 l Z a0 CX [] (x0 &&& (3 : Int32)) (3 : Int32) h0 O (by simp [hk0_1, hk1_5, hk2_9])) hZ (hw _ (List.mem_of_getElem? (i := 9) rfl)) (hw _ (List.mem_of_getElem? (i := 2) rfl)) (by decide) (by decide)) (g := (mkF m 10 #[.val (.int x0), .val (.int (x0 &&& (3 : Int32))), .val (.ref w_READWRITE), .unset] [(.int (x0 &&& (3 : Int32)))])) rfl (by rw [hml]; rfl) (argsL := [(.int (x0 &&& (3 : Int32)))]) (rest := []) (lenOf pd_1 rfl) rfl (by show 2 * 0 + _ ≤ _; exact Nat.le_of_eq rfl) (hb hby at_10) (fun _ _ => ⟨rfl, e10, (by decide : 0 + 0 ≤ _), (by decide : 0 + 0 ≤ _)⟩)
        dsimp only [Pt.U, Pt.locs, Pt.cells, Pt.slots] at X11 l11 y11 z11 st11 hQ11
        subst l11 y11 z11
        obtain ⟨rfl, N11q, e11⟩ := hQ11
        have N := Fr.app N N11q
        refine own_st (T' := T11) (F' := (mkF m 13 #[.val (.int x0), .val (.int (x0 &&& (3 : Int32))), .val (.ref w_READWRITE), .unset] [(.int (3 : Int32))])) st11 ?_
        refine own_st (T' := T11) (F' := (mkF m 14 #[.val (.int x0), .val (.int (x0 &&& (3 : Int32))), .val (.ref w_READWRITE), .unset] [(.int (1 : Int32)), (.int (3 : Int32))])) (fun t k => XS.iconst X11.here hx rfl (hb hby at_13) k) ?_
        refine own_st (T' := T11) (F' := (mkF m 15 #[.val (.int x0), .val (.int (x0 &&& (3 : Int32))), .val (.ref w_READWRITE), .unset] [(.int (1 : Int32))])) (fun t k => XS.iand X11.here hx rfl (hb hby at_14) rfl k) ?_
        refine own_st (T' := T11) (F' := (mkF m 18 #[.val (.int x0), .val (.int (x0 &&& (3 : Int32))), .val (.ref w_READWRITE), .unset] [])) (fun t k => XS.ifNo X11.here hx rfl (hb hby at_15) rfl ((if0 _ _).trans (feq (by decide : ¬ ((1 : Int32) = (0 : Int32)))).1) k) ?_
        refine own_st (T' := T11) (F' := (mkF m 19 #[.val (.int x0), .val (.int (x0 &&& (3 : Int32))), .val (.ref w_READWRITE), .unset] [(.int (1 : Int32))])) (fun t k => XS.iconst X11.here hx rfl (hb hby at_18) k) ?_
        refine own_st (T' := T11) (F' := (mkF m 23 #[.val (.int x0), .val (.int (x0 &&& (3 : Int32))), .val (.ref w_READWRITE), .unset] [(.int (1 : Int32))])) (fun t k => XS.goto X11.here hx rfl (pc0 := 19) (pc' := 23) rfl (hb hby at_19) (by decide) (by decide) k) ?_
        refine own_st (T' := T11) (F' := (mkF m 24 #[.val (.int x0), .val (.int (x0 &&& (3 : Int32))), .val (.ref w_READWRITE), .val (.int (1 : Int32))] [])) (fun t k => XS.istoreN X11.here hx rfl (hb hby at_23) rfl (l' := #[.val (.int x0), .val (.int (x0 &&& (3 : Int32))), .val (.ref w_READWRITE), .val (.int (1 : Int32))]) rfl k) ?_
        refine own_st (T' := T11) (F' := (mkF m 25 #[.val (.int x0), .val (.int (x0 &&& (3 : Int32))), .val (.ref w_READWRITE), .val (.int (1 : Int32))] [(.ref w_READWRITE)])) (fun t k => XS.aloadN X11.here hx rfl (hb hby at_24) rfl rfl k) ?_
        obtain ⟨cq12, kq12, q12a, q12b, q12c⟩ := isOf hZ e11 (E_READWRITE.ext O)
        obtain ⟨v12, _, ⟨T12, L12, k12, n12⟩, -, X12, ⟨Lc12, hQ12, l12, y12, z12⟩, st12⟩ := X11.virtualBack hx (y := (⟨"com/example/nibbl/nibbl/auth/AclFile$Grant", "reads", "()Z"⟩ : MethodName)) (z := (⟨"com/example/nibbl/nibbl/auth/AclFile$Grant", "reads", "()Z"⟩ : MethodName)) hown (mvT hZ (hw _ (List.mem_of_getElem? (i := 10) rfl))) (mvT hZ (hw _ (List.mem_of_getElem? (i := 11) rfl))) (notFace_of_selects (args := #[]) (mvT hZ (hw _ (List.mem_of_getElem? (i := 13) rfl)))) (mvT hZ (hw _ (List.mem_of_getElem? (i := 13) rfl))) (mvT hZ (hw _ (List.mem_of_getElem? (i := 12) rfl))) (by decide) (backOf (W := 0) (rm3 l Z a0 CX [] w_READWRITE (1 : Int32) h0 O (by simp [(O_READWRITE.ne O_READ (by decide))])) hZ (hw _ (List.mem_of_getElem? (i := 14) rfl)) (hw _ (List.mem_of_getElem? (i := 5) rfl)) (by decide) (by decide)) q12a q12c (g := (mkF m 25 #[.val (.int x0), .val (.int (x0 &&& (3 : Int32))), .val (.ref w_READWRITE), .val (.int (1 : Int32))] [(.ref w_READWRITE)])) rfl (by rw [hml]; rfl) (Steps.refl _) (argsL := []) (rest := []) (lenOf pd_2 rfl) rfl (by show 2 * 0 + _ ≤ _; exact Nat.le_of_eq rfl) (hb hby at_25) (fun _ _ => ⟨rfl, e11, (by decide : 0 + 0 ≤ _), (by decide : 0 + 0 ≤ _)⟩)
        dsimp only [Pt.U, Pt.locs, Pt.cells, Pt.slots] at X12 l12 y12 z12 st12 hQ12
        subst l12 y12 z12
        obtain ⟨rfl, N12q, e12⟩ := hQ12
        have N := Fr.app N N12q
        refine own_tr (T' := T12) (F' := (mkF m 28 #[.val (.int x0), .val (.int (x0 &&& (3 : Int32))), .val (.ref w_READWRITE), .val (.int (1 : Int32))] [(.int (1 : Int32))])) st12 ?_
        refine own_st (T' := T12) (F' := (mkF m 29 #[.val (.int x0), .val (.int (x0 &&& (3 : Int32))), .val (.ref w_READWRITE), .val (.int (1 : Int32))] [(.int (1 : Int32)), (.int (1 : Int32))])) (fun t k => XS.iloadN X12.here hx rfl (hb hby at_28) rfl k) ?_
        refine own_st (T' := T12) (F' := (mkF m 32 #[.val (.int x0), .val (.int (x0 &&& (3 : Int32))), .val (.ref w_READWRITE), .val (.int (1 : Int32))] [])) (fun t k => XS.icmpNo X12.here hx rfl (hb hby at_29) rfl (teq rfl).2 k) ?_
        refine own_st (T' := T12) (F' := (mkF m 33 #[.val (.int x0), .val (.int (x0 &&& (3 : Int32))), .val (.ref w_READWRITE), .val (.int (1 : Int32))] [(.int (1 : Int32))])) (fun t k => XS.iconst X12.here hx rfl (hb hby at_32) k) ?_
        refine own_st (T' := T12) (F' := (mkF m 37 #[.val (.int x0), .val (.int (x0 &&& (3 : Int32))), .val (.ref w_READWRITE), .val (.int (1 : Int32))] [(.int (1 : Int32))])) (fun t k => XS.goto X12.here hx rfl (pc0 := 33) (pc' := 37) rfl (hb hby at_33) (by decide) (by decide) k) ?_
        exact own_retN X12 hx (t := .boolean) Bd.returns (by simp) (by decide) (hb hby at_37) hlk (by show Q0 Z _ T12.heap _; rw [e12]; exact ⟨rfl, N⟩) (by decide) (by decide)
      · refine own_st (T' := s₁) (F' := (mkF m 1 #[.val (.int x0), .unset, .unset, .unset] [(.int x0)])) (fun t k => XS.iloadN X0.here hx rfl (hb hby at_0) rfl k) ?_
        refine own_st (T' := s₁) (F' := (mkF m 2 #[.val (.int x0), .unset, .unset, .unset] [(.int (3 : Int32)), (.int x0)])) (fun t k => XS.iconst X0.here hx rfl (hb hby at_1) k) ?_
        refine own_st (T' := s₁) (F' := (mkF m 3 #[.val (.int x0), .unset, .unset, .unset] [(.int (x0 &&& (3 : Int32)))])) (fun t k => XS.iand X0.here hx rfl (hb hby at_2) rfl k) ?_
        refine own_st (T' := s₁) (F' := (mkF m 4 #[.val (.int x0), .val (.int (x0 &&& (3 : Int32))), .unset, .unset] [])) (fun t k => XS.istoreN X0.here hx rfl (hb hby at_3) rfl (l' := #[.val (.int x0), .val (.int (x0 &&& (3 : Int32))), .unset, .unset]) rfl k) ?_
        refine own_st (T' := s₁) (F' := (mkF m 5 #[.val (.int x0), .val (.int (x0 &&& (3 : Int32))), .unset, .unset] [(.int (x0 &&& (3 : Int32)))])) (fun t k => XS.iloadN X0.here hx rfl (hb hby at_4) rfl k) ?_
        obtain ⟨v13, _, ⟨T13, L13, k13, n13⟩, -, X13, ⟨Lc13, hQ13, l13, y13, z13⟩, st13⟩ := Jvm.LawKit.callS X0 hx (y := (⟨"com/example/nibbl/nibbl/auth/GrantReadsPinLaw", "grant", "(I)Lcom/example/nibbl/nibbl/auth/AclFile$Grant;"⟩ : MethodName)) hown (mvT hZ (hw _ (List.mem_of_getElem? (i := 0) rfl))) (mvT hZ (hw _ (List.mem_of_getElem? (i := 1) rfl))) (mvT hZ (hw _ (List.mem_of_getElem? (i := 2) rfl))) (mvT hZ (hw _ (List.mem_of_getElem? (i := 3) rfl))) (by decide) (backOf (W := 0) (rm1 l Z a0 CX [] (x0 &&& (3 : Int32)) w_DENY h0 O (by simp [hk0_1, hk1_5, hk2_9])) hZ (hw _ (List.mem_of_getElem? (i := 3) rfl)) (hw _ (List.mem_of_getElem? (i := 2) rfl)) (by decide) (by decide)) (g := (mkF m 5 #[.val (.int x0), .val (.int (x0 &&& (3 : Int32))), .unset, .unset] [(.int (x0 &&& (3 : Int32)))])) rfl (by rw [hml]; rfl) (argsL := [(.int (x0 &&& (3 : Int32)))]) (rest := []) (lenOf pd_0 rfl) rfl (by show 2 * 0 + _ ≤ _; exact Nat.le_of_eq rfl) (hb hby at_5) (fun _ _ => ⟨rfl, e0, (by decide : 0 + 0 ≤ _), (by decide : 0 + 0 ≤ _)⟩)
        dsimp only [Pt.U, Pt.locs, Pt.cells, Pt.slots] at X13 l13 y13 z13 st13 hQ13
        subst l13 y13 z13
        obtain ⟨rfl, N13q, e13⟩ := hQ13
        have N := Fr.app N N13q
        refine own_st (T' := T13) (F' := (mkF m 8 #[.val (.int x0), .val (.int (x0 &&& (3 : Int32))), .unset, .unset] [(.ref w_DENY)])) st13 ?_
        refine own_st (T' := T13) (F' := (mkF m 9 #[.val (.int x0), .val (.int (x0 &&& (3 : Int32))), .val (.ref w_DENY), .unset] [])) (fun t k => XS.astoreN X13.here hx rfl (hb hby at_8) rfl rfl (l' := #[.val (.int x0), .val (.int (x0 &&& (3 : Int32))), .val (.ref w_DENY), .unset]) rfl k) ?_
        refine own_st (T' := T13) (F' := (mkF m 10 #[.val (.int x0), .val (.int (x0 &&& (3 : Int32))), .val (.ref w_DENY), .unset] [(.int (x0 &&& (3 : Int32)))])) (fun t k => XS.iloadN X13.here hx rfl (hb hby at_9) rfl k) ?_
        obtain ⟨v14, _, ⟨T14, L14, k14, n14⟩, -, X14, ⟨Lc14, hQ14, l14, y14, z14⟩, st14⟩ := Jvm.LawKit.callS X13 hx (y := (⟨"com/example/nibbl/nibbl/auth/GrantReadsPinLaw", "accesses", "(I)I"⟩ : MethodName)) hown (mvT hZ (hw _ (List.mem_of_getElem? (i := 7) rfl))) (mvT hZ (hw _ (List.mem_of_getElem? (i := 8) rfl))) (mvT hZ (hw _ (List.mem_of_getElem? (i := 2) rfl))) (mvT hZ (hw _ (List.mem_of_getElem? (i := 9) rfl))) (by decide) (backOf (W := 0) (rm2 l Z a0 CX [] (x0 &&& (3 : Int32)) (0 : Int32) h0 O (by simp [hk0_1, hk1_5, hk2_9])) hZ (hw _ (List.mem_of_getElem? (i := 9) rfl)) (hw _ (List.mem_of_getElem? (i := 2) rfl)) (by decide) (by decide)) (g := (mkF m 10 #[.val (.int x0), .val (.int (x0 &&& (3 : Int32))), .val (.ref w_DENY), .unset] [(.int (x0 &&& (3 : Int32)))])) rfl (by rw [hml]; rfl) (argsL := [(.int (x0 &&& (3 : Int32)))]) (rest := []) (lenOf pd_1 rfl) rfl (by show 2 * 0 + _ ≤ _; exact Nat.le_of_eq rfl) (hb hby at_10) (fun _ _ => ⟨rfl, e13, (by decide : 0 + 0 ≤ _), (by decide : 0 + 0 ≤ _)⟩)
        dsimp only [Pt.U, Pt.locs, Pt.cells, Pt.slots] at X14 l14 y14 z14 st14 hQ14
        subst l14 y14 z14
        obtain ⟨rfl, N14q, e14⟩ := hQ14
        have N := Fr.app N N14q
        refine own_st (T' := T14) (F' := (mkF m 13 #[.val (.int x0), .val (.int (x0 &&& (3 : Int32))), .val (.ref w_DENY), .unset] [(.int (0 : Int32))])) st14 ?_
        refine own_st (T' := T14) (F' := (mkF m 14 #[.val (.int x0), .val (.int (x0 &&& (3 : Int32))), .val (.ref w_DENY), .unset] [(.int (1 : Int32)), (.int (0 : Int32))])) (fun t k => XS.iconst X14.here hx rfl (hb hby at_13) k) ?_
        refine own_st (T' := T14) (F' := (mkF m 15 #[.val (.int x0), .val (.int (x0 &&& (3 : Int32))), .val (.ref w_DENY), .unset] [(.int (0 : Int32))])) (fun t k => XS.iand X14.here hx rfl (hb hby at_14) rfl k) ?_
        refine own_st (T' := T14) (F' := (mkF m 22 #[.val (.int x0), .val (.int (x0 &&& (3 : Int32))), .val (.ref w_DENY), .unset] [])) (fun t k => XS.ifYes X14.here hx rfl (pc0 := 15) (pc' := 22) rfl (hb hby at_15) rfl ((if0 _ _).trans (teq rfl).1) (by decide) (by decide) k) ?_
        refine own_st (T' := T14) (F' := (mkF m 23 #[.val (.int x0), .val (.int (x0 &&& (3 : Int32))), .val (.ref w_DENY), .unset] [(.int (0 : Int32))])) (fun t k => XS.iconst X14.here hx rfl (hb hby at_22) k) ?_
        refine own_st (T' := T14) (F' := (mkF m 24 #[.val (.int x0), .val (.int (x0 &&& (3 : Int32))), .val (.ref w_DENY), .val (.int (0 : Int32))] [])) (fun t k => XS.istoreN X14.here hx rfl (hb hby at_23) rfl (l' := #[.val (.int x0), .val (.int (x0 &&& (3 : Int32))), .val (.ref w_DENY), .val (.int (0 : Int32))]) rfl k) ?_
        refine own_st (T' := T14) (F' := (mkF m 25 #[.val (.int x0), .val (.int (x0 &&& (3 : Int32))), .val (.ref w_DENY), .val (.int (0 : Int32))] [(.ref w_DENY)])) (fun t k => XS.aloadN X14.here hx rfl (hb hby at_24) rfl rfl k) ?_
        obtain ⟨cq15, kq15, q15a, q15b, q15c⟩ := isOf hZ e14 (E_DENY.ext O)
        obtain ⟨v15, _, ⟨T15, L15, k15, n15⟩, -, X15, ⟨Lc15, hQ15, l15, y15, z15⟩, st15⟩ := X14.virtualBack hx (y := (⟨"com/example/nibbl/nibbl/auth/AclFile$Grant", "reads", "()Z"⟩ : MethodName)) (z := (⟨"com/example/nibbl/nibbl/auth/AclFile$Grant", "reads", "()Z"⟩ : MethodName)) hown (mvT hZ (hw _ (List.mem_of_getElem? (i := 10) rfl))) (mvT hZ (hw _ (List.mem_of_getElem? (i := 11) rfl))) (notFace_of_selects (args := #[]) (mvT hZ (hw _ (List.mem_of_getElem? (i := 13) rfl)))) (mvT hZ (hw _ (List.mem_of_getElem? (i := 13) rfl))) (mvT hZ (hw _ (List.mem_of_getElem? (i := 12) rfl))) (by decide) (backOf (W := 0) (rm3 l Z a0 CX [] w_DENY (0 : Int32) h0 O (by simp [(O_DENY.ne O_READ (by decide)), (O_DENY.ne O_READWRITE (by decide))])) hZ (hw _ (List.mem_of_getElem? (i := 14) rfl)) (hw _ (List.mem_of_getElem? (i := 5) rfl)) (by decide) (by decide)) q15a q15c (g := (mkF m 25 #[.val (.int x0), .val (.int (x0 &&& (3 : Int32))), .val (.ref w_DENY), .val (.int (0 : Int32))] [(.ref w_DENY)])) rfl (by rw [hml]; rfl) (Steps.refl _) (argsL := []) (rest := []) (lenOf pd_2 rfl) rfl (by show 2 * 0 + _ ≤ _; exact Nat.le_of_eq rfl) (hb hby at_25) (fun _ _ => ⟨rfl, e14, (by decide : 0 + 0 ≤ _), (by decide : 0 + 0 ≤ _)⟩)
        dsimp only [Pt.U, Pt.locs, Pt.cells, Pt.slots] at X15 l15 y15 z15 st15 hQ15
        subst l15 y15 z15
        obtain ⟨rfl, N15q, e15⟩ := hQ15
        have N := Fr.app N N15q
        refine own_tr (T' := T15) (F' := (mkF m 28 #[.val (.int x0), .val (.int (x0 &&& (3 : Int32))), .val (.ref w_DENY), .val (.int (0 : Int32))] [(.int (0 : Int32))])) st15 ?_
        refine own_st (T' := T15) (F' := (mkF m 29 #[.val (.int x0), .val (.int (x0 &&& (3 : Int32))), .val (.ref w_DENY), .val (.int (0 : Int32))] [(.int (0 : Int32)), (.int (0 : Int32))])) (fun t k => XS.iloadN X15.here hx rfl (hb hby at_28) rfl k) ?_
        refine own_st (T' := T15) (F' := (mkF m 32 #[.val (.int x0), .val (.int (x0 &&& (3 : Int32))), .val (.ref w_DENY), .val (.int (0 : Int32))] [])) (fun t k => XS.icmpNo X15.here hx rfl (hb hby at_29) rfl (teq rfl).2 k) ?_
        refine own_st (T' := T15) (F' := (mkF m 33 #[.val (.int x0), .val (.int (x0 &&& (3 : Int32))), .val (.ref w_DENY), .val (.int (0 : Int32))] [(.int (1 : Int32))])) (fun t k => XS.iconst X15.here hx rfl (hb hby at_32) k) ?_
        refine own_st (T' := T15) (F' := (mkF m 37 #[.val (.int x0), .val (.int (x0 &&& (3 : Int32))), .val (.ref w_DENY), .val (.int (0 : Int32))] [(.int (1 : Int32))])) (fun t k => XS.goto X15.here hx rfl (pc0 := 33) (pc' := 37) rfl (hb hby at_33) (by decide) (by decide) k) ?_
        exact own_retN X15 hx (t := .boolean) Bd.returns (by simp) (by decide) (hb hby at_37) hlk (by show Q0 Z _ T15.heap _; rw [e15]; exact ⟨rfl, N⟩) (by decide) (by decide)
set_option maxRecDepth 65536 in
set_option maxHeartbeats 40000000 in
theorem comes_1 {Post : Tables → Env → Array Value → State → Outcome → State → Prop} (hpost : ∀ tb e args s v u, (limb_1_1.after args s (.returned v) u = true ∧ limb_1_2.after args s (.returned v) u = true ∧ True) → FrameEnd s (.returned v) u (Jvm.fieldLocs frame_1_writes args s ++ Jvm.arrayLocs frame_1_arrays args s ++ Jvm.staticLocs frame_1_statics s) 0 0 → Post tb e args s (.returned v) u) :
    ArmFor flags0 classFile x code maxLocals ret World_1 tables_1 room_1 Calls_1 rest_1 Pre_1 Post := by
  intro l hfl _ _ p e ha hc hk s m args below hf hA hF happ hP
  obtain ⟨hcalls, hrest, hpre⟩ := hP
  obtain ⟨-, -, -, hnamed, -, -, -, hat⟩ := (Spec.applies_iff hf).mp happ
  obtain ⟨hg, hn⟩ := and_e (Cond.before_iff.mp (show (Jvm.Cond.and given_1 narrow_1).before args s = true from hpre))
  obtain ⟨g0, g1⟩ := and_e hg
  obtain ⟨w0, rfl⟩ : ∃ w0 : Value, args = #[w0] := by
    have hs : args.size = 1 := by simpa [Cond.value, given_1] using g0
    obtain ⟨L⟩ := args
    match L, hs with
    | [w0], _ => exact ⟨w0, rfl⟩
  have hw := fun d (hd : d ∈ tables_1) => atoms_spec (ws := Jvm.Cond.code x code maxLocals ret :: tables_1) hat d (List.mem_cons_of_mem _ hd)
  have hfit : Fit s := fun {y c} hc i hi => by
    obtain ⟨ha, rfl⟩ := Array.getElem?_eq_some_iff.mp hc
    have q := List.all_eq_true.mp ((Array.all_eq_true_iff_forall_mem.mp hF) _ (Array.getElem_mem ha)) i (List.mem_range.mpr hi)
    simpa [Array.getElem?_eq_getElem hi] using q
  obtain ⟨i0, ei0⟩ := is_v g1
  obtain rfl : w0 = (.int i0) := Option.some.inj ei0
  obtain ⟨n0a, n0b⟩ := and_e hn
  obtain ⟨n1a, n1b⟩ := and_e n0b
  obtain ⟨n2a, n2b⟩ := and_e n1b
  obtain ⟨n3a, n3b⟩ := and_e n2b
  obtain ⟨n4a, n4b⟩ := and_e n3b
  obtain ⟨n5a, n5b⟩ := and_e n4b
  obtain ⟨n6a, n6b⟩ := and_e n5b
  obtain ⟨w_READ, v_READ⟩ := exa_v n0a
  have E_READ := Exa.start v_READ n0a
  have S_READ := Sta.start v_READ (Or.inr ⟨(hw _ (List.mem_of_getElem? (i := 5) rfl)), (hw _ (List.mem_of_getElem? (i := 6) rfl))⟩)
  obtain ⟨w_DENY, v_DENY⟩ := exa_v n1a
  have E_DENY := Exa.start v_DENY n1a
  have S_DENY := Sta.start v_DENY (Or.inr ⟨(hw _ (List.mem_of_getElem? (i := 5) rfl)), (hw _ (List.mem_of_getElem? (i := 17) rfl))⟩)
  obtain ⟨w_READWRITE, v_READWRITE⟩ := exa_v n4a
  have E_READWRITE := Exa.start v_READWRITE n4a
  have S_READWRITE := Sta.start v_READWRITE (Or.inr ⟨(hw _ (List.mem_of_getElem? (i := 5) rfl)), (hw _ (List.mem_of_getElem? (i := 19) rfl))⟩)
  obtain ⟨w_WRITE, v_WRITE⟩ := exa_v n6a
  have E_WRITE := Exa.start v_WRITE n6a
  have S_WRITE := Sta.start v_WRITE (Or.inr ⟨(hw _ (List.mem_of_getElem? (i := 5) rfl)), (hw _ (List.mem_of_getElem? (i := 22) rfl))⟩)
  have O_DENY := Fld.start (own_fld_int v_DENY n2a)
  have O_READ := Fld.start (own_fld_int v_READ n3a)
  have O_READWRITE := Fld.start (own_fld_int v_READWRITE n5a)
  have O_WRITE := Fld.start (own_fld_int v_WRITE n6b)
  have CX : Ctx s _ w_READ w_DENY w_READWRITE w_WRITE := ⟨hw, S_READ, E_READ, S_DENY, E_DENY, S_READWRITE, E_READWRITE, S_WRITE, E_WRITE, O_DENY, O_READ, O_READWRITE, O_WRITE, trivial⟩
  obtain ⟨n, o, h1, h2, h3, _, L, rfl, ⟨rfl, N⟩, hq⟩ := rm0 l s _ CX tables_1 i0 s.heap (own_ext_refl _)  p e ha hc hk s m _ below hf ((Spec.applies_iff_loose hf).mp happ).1 ⟨rfl, State.Warmed39.refl s, rfl⟩ trivial
  refine ⟨n, _, h1, h2, h3, hpost _ _ _ _ _ _ ⟨Cond.after_iff.mpr rfl, Cond.after_iff.mpr (eq_i res_at (Term.int_eval (1)) rfl), trivial⟩ ⟨hq.1, hq.2.1, (hq.2.2.sift fun y hy => Or.inr (N y hy)).mono (by decide) (by decide)⟩⟩
theorem main_1_1 : Claimed_1_1 := comes_1 fun _ _ _ _ _ _ h hF => ⟨h.1, hF⟩
theorem main_1_2 : Claimed_1_2 := comes_1 fun _ _ _ _ _ _ h hF => ⟨h.2.1, hF⟩
end Jvm.Pilot.@@N@@
namespace Jvm.Pilot.@@N@@
open Jvm Jvm.ClassFile Sem Op Lib Jvm.Free Jvm.Stand Jvm.Pilot.@@N@@.Jvm.D
/-! MADE BY PROGRAM (witnessworld.py) out of the Statement's table words and the real class files: 12 classes; the members and pool entries that the words name. The judged class is class 1, her method 3. -/
namespace start1
open Jvm.ClassFile
def u (s : String) : CpInfo := .utf8 (stringToUtf16 s)
/-- a pool by its gaps: so many unusable entries, then the entry; so many at the end -/
def gap : Nat → List CpInfo → List CpInfo
  | 0, r => r
  | n + 1, r => .unusable :: gap n r
def poolList (es : List (Nat × CpInfo)) (last : Nat) : List CpInfo := es.foldr (fun e r => gap e.1 (e.2 :: r)) (gap last [])
def pool (es : List (Nat × CpInfo)) (last : Nat) : Array CpInfo := ⟨poolList es last⟩
def fileOf (pool : Array CpInfo) (this : Nat) (attrs : Array Attribute := #[]) (ms : Array MethodInfo := #[]) (fl : Nat := 33) (sup : Nat := 0) (ifs : Array Nat := #[]) (fds : Array FieldInfo := #[]) : ClassFile where
  minorVersion := 0
  majorVersion := 65
  constantPool := pool
  accessFlags := fl
  thisClass := this
  superClass := sup
  interfaces := ifs
  fields := fds
  methods := ms
  attributes := attrs
def plain (name : String) (sup : Option ClassId) : Class where
  name := name
  kind := .ordinary
  loader := none
  accessFlags := 33
  super := sup
  interfaces := #[]
  cf := none
  fields := #[]
  methods := #[]
  instanceTypes := #[]
  staticTypes := #[]
  resolved := #[]
  callSites := []
  init := .initialized
  statics := none
  mirror := none

def pool0 : Array CpInfo := pool [(5, u "<init>"), (0, u "()V"), (1, .class_ 10), (1, u "java/lang/Object")] 113

def k0m0 : Method := { name := "<init>", desc := "()V", sig := { parameters := [], returnType := none }, accessFlags := 1, code := none }
/-- java/lang/Object -/
def k0 : Class := { plain "java/lang/Object" none with
  accessFlags := 33
  interfaces := #[]
  cf := some (fileOf pool0 8 #[] #[{ accessFlags := 1, nameIndex := 5, descriptorIndex := 6, attributes := #[] }] 33 0 #[] #[])
  fields := #[]
  methods := #[k0m0]
  instanceTypes := #[]
  staticTypes := #[]
  resolved := Array.replicate 124 none
  statics := none }

def pool1 : Array CpInfo := pool [(2, .class_ 4), (1, u "java/lang/Object"), (0, u "<init>"), (0, u "()V"), (0, .fieldref 8 9), (0, .class_ 10), (0, .nameAndType 11 12), (0, u "com/example/nibbl/nibbl/auth/AclFile$Grant"), (0, u "READ"), (0, u "Lcom/example/nibbl/nibbl/auth/AclFile$Grant;"), (0, .fieldref 8 14), (0, .nameAndType 15 12), (0, u "WRITE"), (0, .fieldref 8 17), (0, .nameAndType 18 12), (0, u "READWRITE"), (0, .fieldref 8 20), (0, .nameAndType 21 12), (0, u "DENY"), (0, .methodref 23 24), (0, .class_ 25), (0, .nameAndType 26 27), (0, u "com/example/nibbl/nibbl/auth/GrantReadsPinLaw"), (0, u "grant"), (0, u "(I)Lcom/example/nibbl/nibbl/auth/AclFile$Grant;"), (0, .methodref 23 29), (0, .nameAndType 30 31), (0, u "accesses"), (0, u "(I)I"), (0, .methodref 8 33), (0, .nameAndType 34 35), (0, u "reads"), (0, u "()Z"), (3, u "law"), (0, u "(I)Z")] 6

def k1m0 : Method := { name := "<init>", desc := "()V", sig := { parameters := [], returnType := none }, accessFlags := 2, code := none }
def k1c1 : Code := { maxStack := 2, maxLocals := 1, code := method_2_code, exceptionTable := #[], attributes := #[] }
def k1m1 : Method := { name := "accesses", desc := "(I)I", sig := { parameters := [.int], returnType := some .int }, accessFlags := 10, code := some k1c1 }
def k1c2 : Code := { maxStack := 2, maxLocals := 1, code := method_3_code, exceptionTable := #[], attributes := #[] }
def k1m2 : Method := { name := "grant", desc := "(I)Lcom/example/nibbl/nibbl/auth/AclFile$Grant;", sig := { parameters := [.int], returnType := some (.object "com/example/nibbl/nibbl/auth/AclFile$Grant") }, accessFlags := 10, code := some k1c2 }
def k1c3 : Code := { maxStack := 2, maxLocals := 4, code := code, exceptionTable := #[], attributes := #[] }
def k1m3 : Method := { name := "law", desc := "(I)Z", sig := { parameters := [.int], returnType := some .boolean }, accessFlags := 9, code := some k1c3 }
/-- com/example/nibbl/nibbl/auth/GrantReadsPinLaw -/
def k1 : Class := { plain "com/example/nibbl/nibbl/auth/GrantReadsPinLaw" (some 0) with
  accessFlags := 49
  interfaces := #[]
  cf := some (fileOf pool1 23 #[] #[{ accessFlags := 2, nameIndex := 5, descriptorIndex := 6, attributes := #[] }, { accessFlags := 10, nameIndex := 30, descriptorIndex := 31, attributes := #[] }, { accessFlags := 10, nameIndex := 26, descriptorIndex := 27, attributes := #[] }, { accessFlags := 9, nameIndex := 39, descriptorIndex := 40, attributes := #[] }] 49 2 #[] #[])
  fields := #[]
  methods := #[k1m0, k1m1, k1m2, k1m3]
  instanceTypes := #[]
  staticTypes := #[]
  resolved := Array.replicate 47 none
  statics := none }

def pool2 : Array CpInfo := pool [(1, .class_ 2), (0, u "java/lang/constant/Constable"), (0, .class_ 4), (0, u "java/lang/Object")] 6

/-- java/lang/constant/Constable -/
def k2 : Class := { plain "java/lang/constant/Constable" (some 0) with
  accessFlags := 1537
  interfaces := #[]
  cf := some (fileOf pool2 1 #[] #[] 1537 3 #[] #[])
  fields := #[]
  methods := #[]
  instanceTypes := #[]
  staticTypes := #[]
  resolved := Array.replicate 11 none
  statics := none }

def pool3 : Array CpInfo := pool [(1, .class_ 2), (0, u "java/lang/Comparable"), (0, .class_ 4), (0, u "java/lang/Object")] 7

/-- java/lang/Comparable -/
def k3 : Class := { plain "java/lang/Comparable" (some 0) with
  accessFlags := 1537
  interfaces := #[]
  cf := some (fileOf pool3 1 #[] #[] 1537 3 #[] #[])
  fields := #[]
  methods := #[]
  instanceTypes := #[]
  staticTypes := #[]
  resolved := Array.replicate 12 none
  statics := none }

def pool4 : Array CpInfo := pool [(1, .class_ 2), (0, u "java/io/Serializable"), (0, .class_ 4), (0, u "java/lang/Object")] 2

/-- java/io/Serializable -/
def k4 : Class := { plain "java/io/Serializable" (some 0) with
  accessFlags := 1537
  interfaces := #[]
  cf := some (fileOf pool4 1 #[] #[] 1537 3 #[] #[])
  fields := #[]
  methods := #[]
  instanceTypes := #[]
  staticTypes := #[]
  resolved := Array.replicate 7 none
  statics := none }

def pool5 : Array CpInfo := pool [(2, .class_ 4), (1, u "java/lang/Enum"), (0, u "name"), (0, u "Ljava/lang/String;"), (2, u "ordinal"), (0, u "I"), (1, .class_ 14), (1, u "java/lang/Object"), (4, u "hash"), (86, .class_ 108), (1, u "java/lang/Enum$EnumDesc"), (2, .class_ 112), (0, u "java/lang/constant/Constable"), (0, .class_ 114), (0, u "java/lang/Comparable"), (0, .class_ 116), (0, u "java/io/Serializable")] 87

/-- java/lang/Enum -/
def k5 : Class := { plain "java/lang/Enum" (some 0) with
  accessFlags := 1057
  interfaces := #[2, 3, 4]
  cf := some (fileOf pool5 2 #[.nestMembers #[106]] #[] 1057 12 #[111, 113, 115] #[{ accessFlags := 18, nameIndex := 5, descriptorIndex := 6, attributes := #[] }, { accessFlags := 18, nameIndex := 9, descriptorIndex := 10, attributes := #[] }, { accessFlags := 2, nameIndex := 19, descriptorIndex := 10, attributes := #[] }])
  fields := #[{ name := "name", type := (.object "java/lang/String"), accessFlags := 18, slot := 0, constantValue := 0 }, { name := "ordinal", type := .int, accessFlags := 18, slot := 1, constantValue := 0 }, { name := "hash", type := .int, accessFlags := 2, slot := 2, constantValue := 0 }]
  methods := #[]
  instanceTypes := #[(.object "java/lang/String"), .int, .int]
  staticTypes := #[]
  resolved := Array.replicate 204 none
  statics := none }

def pool6 : Array CpInfo := pool [(1, .class_ 2), (0, u "com/example/nibbl/nibbl/auth/AclFile$Grant"), (0, .fieldref 1 4), (0, .nameAndType 5 6), (0, u "READ"), (0, u "Lcom/example/nibbl/nibbl/auth/AclFile$Grant;"), (2, u "WRITE"), (0, .fieldref 1 11), (0, .nameAndType 12 6), (0, u "READWRITE"), (2, u "DENY"), (2, u "$VALUES"), (0, u "[Lcom/example/nibbl/nibbl/auth/AclFile$Grant;"), (6, .class_ 28), (1, u "java/lang/Enum"), (46, u "reads"), (0, u "()Z"), (6, .class_ 84), (0, u "com/example/nibbl/nibbl/auth/AclFile")] 2

def k6c0 : Code := { maxStack := 2, maxLocals := 1, code := prog_13_method_5_code, exceptionTable := #[], attributes := #[] }
def k6m0 : Method := { name := "reads", desc := "()Z", sig := { parameters := [], returnType := some .boolean }, accessFlags := 0, code := some k6c0 }
/-- com/example/nibbl/nibbl/auth/AclFile$Grant -/
def k6 : Class := { plain "com/example/nibbl/nibbl/auth/AclFile$Grant" (some 5) with
  accessFlags := 16432
  interfaces := #[]
  cf := some (fileOf pool6 1 #[.nestHost 83] #[{ accessFlags := 0, nameIndex := 75, descriptorIndex := 76, attributes := #[] }] 16432 26 #[] #[{ accessFlags := 16409, nameIndex := 5, descriptorIndex := 6, attributes := #[] }, { accessFlags := 16409, nameIndex := 9, descriptorIndex := 6, attributes := #[] }, { accessFlags := 16409, nameIndex := 12, descriptorIndex := 6, attributes := #[] }, { accessFlags := 16409, nameIndex := 15, descriptorIndex := 6, attributes := #[] }, { accessFlags := 4122, nameIndex := 18, descriptorIndex := 19, attributes := #[] }])
  fields := #[{ name := "READ", type := (.object "com/example/nibbl/nibbl/auth/AclFile$Grant"), accessFlags := 16409, slot := 0, constantValue := 0 }, { name := "WRITE", type := (.object "com/example/nibbl/nibbl/auth/AclFile$Grant"), accessFlags := 16409, slot := 1, constantValue := 0 }, { name := "READWRITE", type := (.object "com/example/nibbl/nibbl/auth/AclFile$Grant"), accessFlags := 16409, slot := 2, constantValue := 0 }, { name := "DENY", type := (.object "com/example/nibbl/nibbl/auth/AclFile$Grant"), accessFlags := 16409, slot := 3, constantValue := 0 }, { name := "$VALUES", type := (.array (.object "com/example/nibbl/nibbl/auth/AclFile$Grant")), accessFlags := 4122, slot := 4, constantValue := 0 }]
  methods := #[k6m0]
  instanceTypes := #[(.object "java/lang/String"), .int, .int]
  staticTypes := #[(.object "com/example/nibbl/nibbl/auth/AclFile$Grant"), (.object "com/example/nibbl/nibbl/auth/AclFile$Grant"), (.object "com/example/nibbl/nibbl/auth/AclFile$Grant"), (.object "com/example/nibbl/nibbl/auth/AclFile$Grant"), (.array (.object "com/example/nibbl/nibbl/auth/AclFile$Grant"))]
  resolved := Array.replicate 87 none
  statics := some 0 }

def pool7 : Array CpInfo := pool [(1, u "java/lang/Cloneable"), (0, .class_ 1), (0, u "java/lang/Object"), (0, .class_ 3)] 3

/-- java/lang/Cloneable -/
def k7 : Class := { plain "java/lang/Cloneable" (some 0) with
  accessFlags := 1537
  interfaces := #[]
  cf := some (fileOf pool7 2 #[] #[] 1537 4 #[] #[])
  fields := #[]
  methods := #[]
  instanceTypes := #[]
  staticTypes := #[]
  resolved := Array.replicate 8 none
  statics := none }

/-- the primitive byte -/
def k8 : Class := { plain "byte" none with kind := .primitive 'B', accessFlags := 0x411 }
/-- [B -/
def k9 : Class := { plain "[B" (some 0) with kind := .array 8 .byte, interfaces := #[7, 4], accessFlags := 1041 }

/-- the primitive int -/
def k10 : Class := { plain "int" none with kind := .primitive 'I', accessFlags := 0x411 }
/-- [I -/
def k11 : Class := { plain "[I" (some 0) with kind := .array 10 .int, interfaces := #[7, 4], accessFlags := 1041 }

def heap : Heap := #[{ cls := 6, slots := #[.ref 1, .ref 4, .ref 3, .ref 2, .null], vm := .statics 6 },
  { cls := 6, slots := #[.null, .int 0, .int 0], vm := .none },
  { cls := 6, slots := #[.null, .int 3, .int 0], vm := .none },
  { cls := 6, slots := #[.null, .int 2, .int 0], vm := .none },
  { cls := 6, slots := #[.null, .int 1, .int 0], vm := .none }]
def classes : Array Class := #[k0, k1, k2, k3, k4, k5, k6, k7, k8, k9, k10, k11]
def interned : List (Array UInt16 × Addr) := []
def slotsUsed : Nat := 17
def theMethod : MethodId := ⟨1, 3⟩
def args0 : Array Value := #[.int 5]
def aboutOver (below : List Frame) : State where
  vm := { classes := classes, interned := interned.toArray }
  heap := heap
  slotsUsed := slotsUsed
  threads := #[{ frames := .invoking theMethod args0 :: below }]
def below0 : List Frame := [.native { method := ⟨0, 0⟩, args := #[] }]
def about1 : State := aboutOver below0
def p0 : Program := .bare "" "" ""
def e0 : Env := launch0.env 0 0 0
theorem w_frames : about1.frames = Frame.invoking theMethod args0 :: below0 := rfl
set_option maxRecDepth 65536 in
theorem w_args : argsFit about1.vm theMethod args0 = true := by decide +kernel
set_option maxRecDepth 65536 in
theorem w_heap : heapFits about1 = true := by decide +kernel
set_option maxRecDepth 65536 in
theorem w_runnable : about1.curStatus? = some .runnable := by decide +kernel
set_option maxRecDepth 65536 in
theorem w_alone : about1.alone = true := by decide +kernel
set_option maxRecDepth 65536 in
theorem w_named : about1.methodNamed? x = some theMethod := by decide +kernel
set_option maxRecDepth 65536 in
theorem w_hears : about1.hears theMethod below0 = true := by decide +kernel
set_option maxRecDepth 65536 in
theorem w_ripe : about1.ripe theMethod args0 below0 = true := by decide +kernel
theorem w_running : about1.status = .running := rfl
set_option maxRecDepth 65536 in
theorem w_room : about1.hasRoom e0.platform room_1 = true :=
  launch0.hasRoom_least _ room_1 (by decide +kernel) (by decide +kernel) (by decide +kernel) (by decide +kernel) (by decide +kernel) (by decide +kernel)
theorem allAtoms_all (ts : List Jvm.Cond) (a : Array Jvm.Value) (st : Jvm.State) : (allAtoms ts).before a st = ts.all (fun c => c.before a st) := by
  induction ts with
  | nil => rfl
  | cons c t ih =>
    show (Jvm.Cond.and c (allAtoms t)).before a st = _
    rw [Jvm.Cond.before_and, ih, List.all_cons]
def words1 : List Jvm.Cond := Jvm.Cond.code x code maxLocals ret :: tables_1
/-- a 'code' word, met by the world's own term for the bytes: nothing is compared byte by byte -/
theorem code_word {y : MethodName} {bytes : ByteArray} {mx : Nat} {rt : Option FieldType} {a : Array Value} {s : State} {m : MethodId} {meth : Method} {c : Code} (h1 : s.methodNamed? y = some m) (h2 : s.vm.method? m = some meth) (h3 : meth.code = some c) (h4 : c.code = bytes)
    (h5 : (c.maxLocals == mx && c.exceptionTable.isEmpty && decide (c.maxStack ≤ mostOperands) && decide (meth.sig.returnType = rt) && !meth.locks && decide (parseMethodDescriptor y.desc = some meth.sig)) = true) : (Jvm.Cond.code y bytes mx rt).before a s = true := by
  simp only [Bool.and_eq_true, beq_iff_eq, Bool.not_eq_true', decide_eq_true_eq] at h5
  obtain ⟨⟨⟨⟨⟨g1, g2⟩, g3⟩, g4⟩, g5⟩, g6⟩ := h5
  simp [Cond.before, Cond.holds, Cond.value, h1, h2, h3, h4, g1, g2, g3, g4, g5, g6]
def isCode : Jvm.Cond → Bool
  | .code _ _ _ _ => true
  | _ => false
theorem all_split {L : List Jvm.Cond} {P : Jvm.Cond → Bool} (h1 : L.all (fun c => isCode c || P c) = true) (h2 : ∀ c ∈ L.filter isCode, P c = true) : L.all P = true := by
  refine List.all_eq_true.mpr fun c hc => ?_
  have h := List.all_eq_true.mp h1 c hc
  rcases Bool.eq_false_or_eq_true (isCode c) with hi | hi
  · exact h2 c (List.mem_filter.mpr ⟨hc, hi⟩)
  · simpa [hi] using h
set_option maxRecDepth 65536 in
theorem w_c0 : (Jvm.Cond.code x code maxLocals ret).before args0 about1 = true := code_word (m := ⟨1, 3⟩) (meth := k1m3) (c := k1c3) (by decide +kernel) rfl rfl rfl (by decide +kernel)
set_option maxRecDepth 65536 in
theorem w_c1 : (Jvm.Cond.code ({ cls := "com/example/nibbl/nibbl/auth/GrantReadsPinLaw", name := "grant", desc := "(I)Lcom/example/nibbl/nibbl/auth/AclFile$Grant;" } : Jvm.MethodName) method_3_code (1 : Nat) (Option.some (Jvm.ClassFile.FieldType.object "com/example/nibbl/nibbl/auth/AclFile$Grant"))).before args0 about1 = true := code_word (m := ⟨1, 2⟩) (meth := k1m2) (c := k1c2) (by decide +kernel) rfl rfl rfl (by decide +kernel)
set_option maxRecDepth 65536 in
theorem w_c2 : (Jvm.Cond.code ({ cls := "com/example/nibbl/nibbl/auth/GrantReadsPinLaw", name := "accesses", desc := "(I)I" } : Jvm.MethodName) method_2_code (1 : Nat) (Option.some Jvm.ClassFile.FieldType.int)).before args0 about1 = true := code_word (m := ⟨1, 1⟩) (meth := k1m1) (c := k1c1) (by decide +kernel) rfl rfl rfl (by decide +kernel)
set_option maxRecDepth 65536 in
theorem w_c3 : (Jvm.Cond.code ({ cls := "com/example/nibbl/nibbl/auth/AclFile$Grant", name := "reads", desc := "()Z" } : Jvm.MethodName) prog_13_method_5_code (1 : Nat) (Option.some Jvm.ClassFile.FieldType.boolean)).before args0 about1 = true := code_word (m := ⟨6, 0⟩) (meth := k6m0) (c := k6c0) (by decide +kernel) rfl rfl rfl (by decide +kernel)
def codes1 : List Jvm.Cond := [Jvm.Cond.code x code maxLocals ret, Jvm.Cond.code ({ cls := "com/example/nibbl/nibbl/auth/GrantReadsPinLaw", name := "grant", desc := "(I)Lcom/example/nibbl/nibbl/auth/AclFile$Grant;" } : Jvm.MethodName) method_3_code (1 : Nat) (Option.some (Jvm.ClassFile.FieldType.object "com/example/nibbl/nibbl/auth/AclFile$Grant")), Jvm.Cond.code ({ cls := "com/example/nibbl/nibbl/auth/GrantReadsPinLaw", name := "accesses", desc := "(I)I" } : Jvm.MethodName) method_2_code (1 : Nat) (Option.some Jvm.ClassFile.FieldType.int), Jvm.Cond.code ({ cls := "com/example/nibbl/nibbl/auth/AclFile$Grant", name := "reads", desc := "()Z" } : Jvm.MethodName) prog_13_method_5_code (1 : Nat) (Option.some Jvm.ClassFile.FieldType.boolean)]
set_option maxRecDepth 65536 in
theorem codes_eq : words1.filter isCode = codes1 := rfl
theorem w_codes : ∀ c ∈ words1.filter isCode, c.before args0 about1 = true := by
  rw [codes_eq]
  intro c hc
  simp only [codes1, List.mem_cons, List.not_mem_nil, or_false] at hc
  rcases hc with rfl | rfl | rfl | rfl
  · exact w_c0
  · exact w_c1
  · exact w_c2
  · exact w_c3
set_option maxRecDepth 65536 in
theorem w_t1 : words1.all (fun c => isCode c || c.before args0 about1) = true := by decide +kernel
theorem w_tables : (allAtoms (Jvm.Cond.code x code maxLocals ret :: tables_1)).before args0 about1 = true := by
  rw [allAtoms_all]
  show words1.all (fun c => c.before args0 about1) = true
  refine all_split ?_ w_codes
  rw [w_t1]
set_option maxRecDepth 65536 in
theorem w_case : (Jvm.Cond.and given_1 narrow_1).before args0 about1 = true := by decide +kernel
theorem w_applies : (headSpec (Jvm.Cond.code x code maxLocals ret :: tables_1) room_1).applies x e0.platform about1 = true :=
  (Spec.applies_iff w_frames).mpr ⟨w_running, w_runnable, w_alone, w_named, w_hears, w_ripe, w_room, w_tables⟩
theorem atStart : AtStart classFile x code maxLocals ret World_1 tables_1 room_1 Calls_1 rest_1 Pre_1 launch0 p0 e0 about1 theMethod args0 below0 :=
  ⟨lists_1, trivial, launch0.admits_env _ _ _, launch0.least_env, fairChoices_fair.cas, fairChoices_fair.clock, w_frames, w_args, w_heap, w_applies, trivial, trivial, w_case⟩
end start1
theorem witness_1 : WitnessClaimed_1 := ⟨start1.p0, start1.e0, start1.about1, start1.theMethod, start1.args0, start1.below0, start1.atStart⟩
end Jvm.Pilot.@@N@@
