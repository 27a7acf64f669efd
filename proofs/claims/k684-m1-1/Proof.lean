import JvmDerived
import JvmDerived.Pilot.@@N@@Statement
import JvmDerived.Pilot.@@N@@Code
set_option linter.unusedVariables false
set_option linter.unusedSimpArgs false
namespace Jvm.Pilot.@@N@@
open Jvm Jvm.ClassFile Sem Op Lib Jvm.Free Jvm.Stand Jvm.LawKit Jvm.RoadKit Bundle Jvm.Pilot.@@N@@.Jvm.D
/-! own_Done: from frame F on top of T the run comes to its end, and R holds there -/
def own_Done (tb : Tables) (e : Env) (below : List Frame) (R : Outcome → State → Prop) (T : State) (F : JFrame) : Prop :=
  ∃ s₂ o, Steps tb e below (T.setTop F) s₂ ∧ s₂.status = .running ∧ Ended s₂ below o ∧ R o s₂
def own_R (Qq : Option Value → Heap → List Loc → Prop) (s : State) (C S : Nat) : Outcome → State → Prop :=
  fun o U => ∃ v L, o = .returned v ∧ Qq v U.heap L ∧ FrameEnd s o U L C S
def own_RW (Qq : Option Value → Heap → List Loc → Prop) (s : State) (C S : Nat) : Outcome → State → Prop :=
  fun o U => ∃ v L, o = .returned v ∧ Qq v U.heap L ∧ ReturnedEndW s o U L C S
theorem own_st {tb : Tables} {e : Env} {below : List Frame} {R : Outcome → State → Prop} {T T' : State} {F F' : JFrame} (k : ∀ t, Steps tb e below (T'.setTop F') t → Steps tb e below (T.setTop F) t) (d : own_Done tb e below R T' F') : own_Done tb e below R T F := by
  obtain ⟨a, o, h1, h2⟩ := d
  exact ⟨a, o, k a h1, h2⟩
theorem own_tr {tb : Tables} {e : Env} {below : List Frame} {R : Outcome → State → Prop} {T T' : State} {F F' : JFrame} (k : Steps tb e below (T.setTop F) (T'.setTop F')) (d : own_Done tb e below R T' F') : own_Done tb e below R T F := by
  obtain ⟨a, o, h1, h2⟩ := d
  exact ⟨a, o, k.trans h1, h2⟩
section Own
variable {p : Program} {l : Launch} {e : Env} {Rm : Room} {s : State} {m : MethodId} {args : Array Value} {below : List Frame} {meth : Method} {c : Code} {T : State} {locs : List Loc} {cells slots : Nat}
theorem own_ret (X : Stand p l e Rm s m args below meth c T locs cells slots) (hx : p.tables.exec = Jvm.exec) {pc : Nat} {Ls : Array Slot} {w : Value} {t : FieldType} {i : Instr} {rest : List Value} (hret : meth.sig.returnType = some t) (hn : narrow t w = w)
    (hi : (i = .ireturn ∧ (t = .int ∨ t = .boolean ∨ t = .byte ∨ t = .char ∨ t = .short) ∧ ∃ z, w = .int z) ∨ (i = .lreturn ∧ t = .long ∧ ∃ z, w = .long z) ∨ (i = .dreturn ∧ t = .double ∧ ∃ z, w = .double z) ∨ (i = .freturn ∧ t = .float ∧ ∃ z, w = .float z) ∨ (i = .areturn ∧ t.isReference = true ∧ w.isRef = true))
    (hd : decode c.code pc = .ok (i, 1)) (hlk : meth.locks = false) {Qq : Option Value → Heap → List Loc → Prop} {C S : Nat} (hQ : Qq (some w) T.heap locs) (hc : cells ≤ C) (hs : slots ≤ S) :
    own_Done p.tables e below (own_R Qq s C S) T (mkF m pc Ls (w :: rest)) := by
  obtain ⟨fs, hr, hrun, hended, hW, hsame⟩ := X.leave (v := some w) (fun h => by rw [hret] at h; cases h) hlk
  exact ⟨_, _, retOut X hx hret hn hi hd hr, hrun, hended, _, _, rfl, hQ, ⟨_, rfl⟩, hW, hsame.mono hc hs⟩
theorem own_retI (X : Stand p l e Rm s m args below meth c T locs cells slots) (hx : p.tables.exec = Jvm.exec) {pc : Nat} {Ls : Array Slot} {z : Int32} {rest : List Value} (hret : meth.sig.returnType = some .int) (hd : decode c.code pc = .ok (.ireturn, 1)) (hlk : meth.locks = false)
    {Qq : Option Value → Heap → List Loc → Prop} {C S : Nat} (hQ : Qq (some (.int z)) T.heap locs) (hc : cells ≤ C) (hs : slots ≤ S) : own_Done p.tables e below (own_R Qq s C S) T (mkF m pc Ls (.int z :: rest)) :=
  own_ret X hx hret rfl (Or.inl ⟨rfl, Or.inl rfl, _, rfl⟩) hd hlk hQ hc hs
theorem own_retN (X : Stand p l e Rm s m args below meth c T locs cells slots) (hx : p.tables.exec = Jvm.exec) {pc : Nat} {Ls : Array Slot} {z : Int32} {t : FieldType} {rest : List Value} (hret : meth.sig.returnType = some t) (ht : t = .boolean ∨ t = .byte ∨ t = .char ∨ t = .short) (hn : narrow t (.int z) = .int z) (hd : decode c.code pc = .ok (.ireturn, 1)) (hlk : meth.locks = false)
    {Qq : Option Value → Heap → List Loc → Prop} {C S : Nat} (hQ : Qq (some (.int z)) T.heap locs) (hc : cells ≤ C) (hs : slots ≤ S) : own_Done p.tables e below (own_R Qq s C S) T (mkF m pc Ls (.int z :: rest)) :=
  own_ret X hx hret hn (Or.inl ⟨rfl, Or.inr ht, _, rfl⟩) hd hlk hQ hc hs
theorem own_retJ (X : Stand p l e Rm s m args below meth c T locs cells slots) (hx : p.tables.exec = Jvm.exec) {pc : Nat} {Ls : Array Slot} {z : Int64} {rest : List Value} (hret : meth.sig.returnType = some .long) (hd : decode c.code pc = .ok (.lreturn, 1)) (hlk : meth.locks = false)
    {Qq : Option Value → Heap → List Loc → Prop} {C S : Nat} (hQ : Qq (some (.long z)) T.heap locs) (hc : cells ≤ C) (hs : slots ≤ S) : own_Done p.tables e below (own_R Qq s C S) T (mkF m pc Ls (.long z :: rest)) :=
  own_ret X hx hret rfl (Or.inr (Or.inl ⟨rfl, rfl, _, rfl⟩)) hd hlk hQ hc hs
theorem own_narrow {t : FieldType} {v : Value} (h : v.isRef = true) : narrow t v = v := by
  rcases ref_cases h with rfl | ⟨a, rfl⟩ <;> cases t <;> rfl
theorem own_retA (X : Stand p l e Rm s m args below meth c T locs cells slots) (hx : p.tables.exec = Jvm.exec) {pc : Nat} {Ls : Array Slot} {w : Value} {t : FieldType} {rest : List Value} (hret : meth.sig.returnType = some t) (ht : t.isReference = true) (hw : w.isRef = true) (hd : decode c.code pc = .ok (.areturn, 1)) (hlk : meth.locks = false)
    {Qq : Option Value → Heap → List Loc → Prop} {C S : Nat} (hQ : Qq (some w) T.heap locs) (hc : cells ≤ C) (hs : slots ≤ S) : own_Done p.tables e below (own_R Qq s C S) T (mkF m pc Ls (w :: rest)) :=
  own_ret X hx hret (own_narrow hw) (Or.inr (Or.inr (Or.inr (Or.inr ⟨rfl, ht, hw⟩)))) hd hlk hQ hc hs
theorem own_retV (X : Stand p l e Rm s m args below meth c T locs cells slots) (hx : p.tables.exec = Jvm.exec) {pc : Nat} {Ls : Array Slot} (hret : meth.sig.returnType = none) (hd : decode c.code pc = .ok (.return_, 1)) (hlk : meth.locks = false)
    {Qq : Option Value → Heap → List Loc → Prop} {C S : Nat} (hQ : Qq none T.heap locs) (hc : cells ≤ C) (hs : slots ≤ S) : own_Done p.tables e below (own_R Qq s C S) T (mkF m pc Ls []) := by
  obtain ⟨fs, hr, hrun, hended, hW, hsame⟩ := X.leave (v := none) (fun _ => rfl) hlk
  exact ⟨_, _, X.returnOut hx hret hd hr, hrun, hended, _, _, rfl, hQ, ⟨_, rfl⟩, hW, hsame.mono hc hs⟩
theorem own_retW {vm₁ : Vm} (X : Stand p l e Rm (s.setVm vm₁) m args below meth c T locs cells slots) (hx : p.tables.exec = Jvm.exec) {pc : Nat} {Ls : Array Slot} {w : Value} {t : FieldType} {i : Instr} {rest : List Value} (hret : meth.sig.returnType = some t) (hn : narrow t w = w)
    (hi : (i = .ireturn ∧ (t = .int ∨ t = .boolean ∨ t = .byte ∨ t = .char ∨ t = .short) ∧ ∃ z, w = .int z) ∨ (i = .lreturn ∧ t = .long ∧ ∃ z, w = .long z) ∨ (i = .dreturn ∧ t = .double ∧ ∃ z, w = .double z) ∨ (i = .freturn ∧ t = .float ∧ ∃ z, w = .float z) ∨ (i = .areturn ∧ t.isReference = true ∧ w.isRef = true))
    {ks : Nat} (hS : s.Since vm₁ ks) (hk : ks ≤ T.heap.size) (hd : decode c.code pc = .ok (i, 1)) (hlk : meth.locks = false) {Qq : Option Value → Heap → List Loc → Prop} {C S : Nat} (hQ : Qq (some w) T.heap locs) (hc : cells ≤ C) (hs : slots ≤ S) :
    own_Done p.tables e below (own_RW Qq s C S) T (mkF m pc Ls (w :: rest)) := by
  obtain ⟨fs, hr, hrun, hended, hW⟩ := X.leaveW hS hk (v := some w) (fun h => by rw [hret] at h; cases h) hlk
  exact ⟨_, _, retOut X hx hret hn hi hd hr, hrun, hended, _, _, rfl, hQ, hW.1, hW.2.1, hW.2.2.1, hW.2.2.2.mono hc hs⟩
theorem own_retIW {vm₁ : Vm} (X : Stand p l e Rm (s.setVm vm₁) m args below meth c T locs cells slots) (hx : p.tables.exec = Jvm.exec) {pc : Nat} {Ls : Array Slot} {z : Int32} {rest : List Value} (hret : meth.sig.returnType = some .int) {ks : Nat} (hS : s.Since vm₁ ks) (hk : ks ≤ T.heap.size) (hd : decode c.code pc = .ok (.ireturn, 1)) (hlk : meth.locks = false)
    {Qq : Option Value → Heap → List Loc → Prop} {C S : Nat} (hQ : Qq (some (.int z)) T.heap locs) (hc : cells ≤ C) (hs : slots ≤ S) : own_Done p.tables e below (own_RW Qq s C S) T (mkF m pc Ls (.int z :: rest)) :=
  own_retW X hx hret rfl (Or.inl ⟨rfl, Or.inl rfl, _, rfl⟩) hS hk hd hlk hQ hc hs
theorem own_retNW {vm₁ : Vm} (X : Stand p l e Rm (s.setVm vm₁) m args below meth c T locs cells slots) (hx : p.tables.exec = Jvm.exec) {pc : Nat} {Ls : Array Slot} {z : Int32} {t : FieldType} {rest : List Value} (hret : meth.sig.returnType = some t) (ht : t = .boolean ∨ t = .byte ∨ t = .char ∨ t = .short) (hn : narrow t (.int z) = .int z) {ks : Nat} (hS : s.Since vm₁ ks) (hk : ks ≤ T.heap.size) (hd : decode c.code pc = .ok (.ireturn, 1)) (hlk : meth.locks = false)
    {Qq : Option Value → Heap → List Loc → Prop} {C S : Nat} (hQ : Qq (some (.int z)) T.heap locs) (hc : cells ≤ C) (hs : slots ≤ S) : own_Done p.tables e below (own_RW Qq s C S) T (mkF m pc Ls (.int z :: rest)) :=
  own_retW X hx hret hn (Or.inl ⟨rfl, Or.inr ht, _, rfl⟩) hS hk hd hlk hQ hc hs
theorem own_retJW {vm₁ : Vm} (X : Stand p l e Rm (s.setVm vm₁) m args below meth c T locs cells slots) (hx : p.tables.exec = Jvm.exec) {pc : Nat} {Ls : Array Slot} {z : Int64} {rest : List Value} (hret : meth.sig.returnType = some .long) {ks : Nat} (hS : s.Since vm₁ ks) (hk : ks ≤ T.heap.size) (hd : decode c.code pc = .ok (.lreturn, 1)) (hlk : meth.locks = false)
    {Qq : Option Value → Heap → List Loc → Prop} {C S : Nat} (hQ : Qq (some (.long z)) T.heap locs) (hc : cells ≤ C) (hs : slots ≤ S) : own_Done p.tables e below (own_RW Qq s C S) T (mkF m pc Ls (.long z :: rest)) :=
  own_retW X hx hret rfl (Or.inr (Or.inl ⟨rfl, rfl, _, rfl⟩)) hS hk hd hlk hQ hc hs
theorem own_mono (X : Stand p l e Rm s m args below meth c T locs cells slots) {C S : Nat} (hc : cells ≤ C) (hs : slots ≤ S) : Stand p l e Rm s m args below meth c T locs C S :=
  { X with same := X.same.mono hc hs }
end Own
theorem own_cat1 {v : Value} (h : v.isRef = true) : v.category = 1 := by rcases ref_cases h with rfl | ⟨a, rfl⟩ <;> rfl
theorem own_fits {t : FieldType} {v : Value} (ht : t.isReference = true) (h : v.isRef = true) : fits t v = true := by rcases ref_cases h with rfl | ⟨a, rfl⟩ <;> cases t <;> first | rfl | cases ht
theorem own_nb {z : Int32} (h : z = 0 ∨ z = 1) : narrow .boolean (.int z) = .int z := by rcases h with rfl | rfl <;> rfl
theorem own_fb {z : Int32} (h : z = 0 ∨ z = 1) : fits .boolean (.int z) = true := by rcases h with rfl | rfl <;> rfl
theorem own_ext_refl (h : Heap) : Ext h h := ⟨Nat.le_refl _, fun _ _ q => q⟩
theorem own_ext_trans {h h' h2 : Heap} (A : Ext h h') (B : Ext h' h2) : Ext h h2 := ⟨Nat.le_trans A.1 B.1, fun a c q => B.2 a c (A.2 a c q)⟩
theorem own_O_wr {Z : State} {h h' : Heap} {a : Addr} {sl : Nat} {v : Value} (A : Ext Z.heap h) (B : Wr h h' a sl v) (q : Z.heap.size ≤ a) : Ext Z.heap h' := (Old.wr (⟨rfl, A⟩ : Old Z Z.heap.size h) B q).2
theorem own_O_keep {Z : State} {h h' : Heap} {ws : List Addr} (A : Ext Z.heap h) (B : Keep h h' ws) (q : ∀ a ∈ ws, Z.heap.size ≤ a) : Ext Z.heap h' := (Old.keep (⟨rfl, A⟩ : Old Z Z.heap.size h) B q).2
theorem own_eq_int {args : Array Value} {s : State} {t : Term} {k : Int32} (h : (Jvm.Cond.eq t (Term.int k)).value args s none s [] = some true) : t.eval args s none [] s = some (.int k) := by
  obtain ⟨u, v, h1, h2, h3, h4⟩ := cmp_v (Or.inl h)
  have h5 : v = .int k := (Option.some.inj h2).symm
  subst h5
  obtain ⟨z, rfl⟩ := h4
  rw [h1]
  simp only [Jvm.Cond.value, h1, h2, Option.some.injEq, decide_eq_true_eq] at h
  rw [h]
theorem own_fld_int {args : Array Value} {s : State} {t : Term} {C n d : String} {a : Addr} {k : Int32} (ht : t.eval args s none [] s = some (.ref a)) (h : (Jvm.Cond.eq (Term.field t C n d) (Term.int k)).value args s none s [] = some true) : s.fieldOf? a C n d = some (.int k) :=
  (fld_at ht).symm.trans (own_eq_int h)
theorem own_eq_ref {args : Array Value} {s : State} {t u : Term} {a : Addr} (h : (Jvm.Cond.eq t u).value args s none s [] = some true) (hu : u.eval args s none [] s = some (.ref a)) : t.eval args s none [] s = some (.ref a) := by
  obtain ⟨x1, y1, h1, h2, h3, h4⟩ := cmp_v (Or.inl h)
  obtain rfl : y1 = .ref a := Option.some.inj (h2.symm.trans hu)
  have hr : x1.isRef = true := by cases x1 <;> first | rfl | (simp [Kin] at h3; done) | exact h3.1
  have e := gotT (eq_R h1 h2 hr rfl) h
  rw [h1, e]
theorem own_len {args : Array Value} {s : State} {t : Term} {a : Addr} {cl : Cell} {n : Int32} (h : (Term.length t).eval args s none [] s = some (.int n)) (ht : t.eval args s none [] s = some (.ref a)) (hc : s.heap[a]? = some cl) : cl.slots.size < 2 ^ 31 ∧ cl.slots.size.toInt32 = n := by
  obtain ⟨a', cell, e1, e2, e3⟩ := Term.length_spec h
  cases ht.symm.trans e1
  cases hc.symm.trans (State.arrayAt?_spec e2).1
  by_cases q : cl.slots.size < 2 ^ 31
  · exact ⟨q, (Value.int.inj e3).symm⟩
  · simp [Term.eval, ht, e2, q] at h
theorem own_initFor {args : Array Value} {s : State} {C n d : String} (h1 : (Jvm.Cond.initializedFor C n d).before args s = true) (h2 : (Jvm.Cond.laysStatic C n d).before args s = true) : (Jvm.Cond.initialized C).before args s = true := by
  obtain ⟨c, k, i, f, a, cell, q1, q2, -⟩ := Cond.laysStatic_spec h2
  have q3 := Cond.initializedFor_spec q2 h1
  have q4 := State.fieldFound?_class q2
  simp [Cond.before, Cond.holds, Cond.value, q1, q4, q3]
theorem own_ns_root {Z : State} {a0 : Array Value} {Ob K : String} {n : Nat} (w : (Jvm.Cond.noSuperclass Ob).before a0 Z = true) (wk : (Jvm.Cond.instantiable K n).before a0 Z = true) (hn : Ob ≠ K) : NS Z Ob K := by
  obtain ⟨c, k, h1, h2, h3, -, -⟩ := Cond.noSuperclass_spec w
  obtain ⟨t, k2, g1, -⟩ := Cond.instantiable_spec wk
  have ne := ids_ne h1 g1 hn
  refine ⟨c, t, h1, g1, fun fuel => ?_⟩
  cases fuel with
  | zero => rfl
  | succ f => simp [Vm.isSubclassAux, ne, h2, h3]
theorem own_ns_no {Z : State} {a0 : Array Value} {C Sp K : String} {n : Nat} (w : (Jvm.Cond.superclass C Sp).before a0 Z = true) (wk : (Jvm.Cond.instantiable K n).before a0 Z = true) (ns : NS Z C K) (hn : C ≠ K) : ∃ c t, Z.vm.findClass C = some c ∧ Z.vm.findClass K = some t ∧ Z.vm.assignable c t = false := by
  obtain ⟨c, t, h0, g0, n3⟩ := ns
  obtain ⟨p, k, kp, h1, h2, h3, h4, h5, -, h7⟩ := Cond.superclass_spec h0 w
  obtain ⟨t', k', g1, g2, g3, g4, -⟩ := Cond.instantiable_spec wk
  cases g0.symm.trans g1
  have g5 : k'.isInterface = false := by
    simp only [Bool.or_eq_false_iff] at g4
    exact g4.1
  have ne := ids_ne h0 g0 hn
  refine ⟨c, t, h0, g0, ?_⟩
  show Z.vm.assignableAux (255 + 1) c t = false
  simp [Vm.assignableAux, ne, h2, g2, h5, g3, g5, Vm.isSubclass, n3]
theorem own_ext_keep {h h' : Heap} (K : Keep h h' []) : Ext h h' := ⟨K.1, fun a c q => K.2.1 a c q (fun z => nomatch z)⟩
theorem own_sub_at {args : Array Value} {first s : State} {o : Option Outcome} {idx : List Nat} {t u : Term} {v w : Int32} (ha : t.eval args first o idx s = some (.int v)) (hb : u.eval args first o idx s = some (.int w)) : (Term.sub t u).eval args first o idx s = some (.int (v - w)) := by simp [Term.eval, ha, hb]
def own_Bx (Z : State) (h : Heap) (w : Value) (b q : Int32) : Prop := (w = .null ∧ b = 1) ∨ (b = 0 ∧ ∃ r : Addr, w = .ref r ∧ Exa Z h r "java/lang/Integer" ∧ Fld Z h r "java/lang/Integer" "value" "I" (.int q))
theorem own_Bx.ext {Z : State} {h h' : Heap} {w : Value} {b q : Int32} (B : own_Bx Z h w b q) (E : Ext h h') : own_Bx Z h' w b q := by
  rcases B with B | ⟨e, r, rfl, X, F⟩
  · exact Or.inl B
  · exact Or.inr ⟨e, r, rfl, X.ext E, F.ext E⟩
theorem own_Bx.keep {Z : State} {h h' : Heap} {w : Value} {b q : Int32} {a : Addr} {C : String} (B : own_Bx Z h w b q) (K : Keep h h' [a]) (X' : Exa Z h a C) (hn : "java/lang/Integer" ≠ C) : own_Bx Z h' w b q := by
  rcases B with B | ⟨e, r, rfl, X, F⟩
  · exact Or.inl B
  · exact Or.inr ⟨e, r, rfl, X.keep K, F.keep K (ninS (ne_exa X X' hn) nin0)⟩
theorem own_Bx.isRef {Z : State} {h : Heap} {w : Value} {b q : Int32} (B : own_Bx Z h w b q) : w.isRef = true := by
  rcases B with ⟨rfl, -⟩ | ⟨-, r, rfl, -, -⟩ <;> rfl
def own_eqv (b1 x1 b2 x2 : Int32) : Int32 := if b1 = 0 then (if b2 = 0 then (if x1 = x2 then 1 else 0) else 0) else (if b2 = 0 then 0 else 1)
theorem own_eqv_self (b z : Int32) : own_eqv b z b z = 1 := by
  unfold own_eqv
  by_cases h : b = 0 <;> simp [h]
theorem own_fld_uniq {Z : State} {h : Heap} {a : Addr} {C n d : String} {v w : Value} (F : Fld Z h a C n d v) (G : Fld Z h a C n d w) : v = w := by
  by_cases q : v = w
  · exact q
  · exact absurd rfl (F.ne G q)
theorem own_selects_private {args : Array Value} {s : State} {y : MethodName} {n : Nat} (hinst : (Jvm.Cond.instanceMethod y).before args s = true) (hpriv : (Jvm.Cond.privateMethod y).before args s = true) (hi : (Jvm.Cond.instantiable y.cls n).before args s = true) (hy : y.cls ≠ "java/lang/invoke/MethodHandle" ∧ y.cls ≠ "java/lang/invoke/VarHandle") : (Jvm.Cond.selects y.cls y y).before args s = true := by
  obtain ⟨mk, methM, hnamed, hmethM, hstM, habM⟩ := Cond.instanceMethod_spec hinst
  have hc := findClass_of_methodNamed hnamed
  obtain ⟨c, k, g1, g2, g3, g4, -⟩ := Cond.instantiable_spec hi
  cases hc.symm.trans g1
  have hf := State.methodFound?_of_named hnamed hy
  have hs : selectMethod {} s.vm mk.cls mk = .method mk := selectMethod_private hmethM (Cond.privateMethod_at hpriv mk methM hnamed hmethM)
  have g5 : k.isInterface = false := by
    simp only [Bool.or_eq_false_iff] at g4
    exact g4.1
  simp [Cond.before, Cond.holds, Cond.value, hc, hf, hnamed, hs, g2, g5]
def Ctx (Z : State) (a0 : Array Value) (w_ic : Addr) (cl_ic : Cell) : Prop := (∀ d ∈ tables_1, d.before a0 Z = true) ∧ Sta Z Z.heap "java/lang/Integer$IntegerCache" "high" "I" (.int (127 : Int32)) ∧ Sta Z Z.heap "java/lang/Integer$IntegerCache" "cache" "[Ljava/lang/Integer;" (.ref w_ic) ∧ Bxs Z w_ic cl_ic "java/lang/Integer" "I" 256 (fun j => .int (j - 128)) ∧ True
def Q0 (Z : State) (v : Option Value) (h : Heap) (L : List Loc) : Prop := v = some (.int (1 : Int32)) ∧ Fr Z.heap.size L
def QP (Z : State) (r : Value) (h0 : Heap) (v : Option Value) (h : Heap) (L : List Loc) : Prop := v = some r ∧ Fr Z.heap.size L ∧ h = h0
def QV (Z : State) (h0 : Heap) (v : Option Value) (h : Heap) (L : List Loc) : Prop := v = none ∧ Fr Z.heap.size L ∧ h = h0
def QI (Z : State) (p1 : Int32) (h0 : Heap) (v : Option Value) (h : Heap) (L : List Loc) : Prop := ∃ r : Addr, v = some (.ref r) ∧ Fr Z.heap.size L ∧ Ext h0 h ∧ Exa Z h r "java/lang/Integer" ∧ Fld Z h r "java/lang/Integer" "value" "I" (.int p1)
theorem own_iidx (q : Int32) (h1 : ¬ q < (-128 : Int32)) (h2 : ¬ (127 : Int32) < q) : ¬ (q + (128 : Int32)) < 0 ∧ (q + (128 : Int32)) < 256 := by
  rw [Int32.lt_iff_toInt_lt] at h1 h2
  have k1 : (-128 : Int32).toInt = -128 := by decide
  have k2 : (127 : Int32).toInt = 127 := by decide
  have k3 : (128 : Int32).toInt = 128 := by decide
  have k4 : (256 : Int32).toInt = 256 := by decide
  have k5 : (0 : Int32).toInt = 0 := by decide
  have b := c_iadd q 128
  have r1 := rng32 q
  have r2 := rng32 (q + 128)
  rw [Int32.lt_iff_toInt_lt, Int32.lt_iff_toInt_lt]
  rw [k1] at h1; rw [k2] at h2; rw [k3] at b; rw [k4, k5]
  omega
theorem own_iback (q : Int32) : q + (128 : Int32) - (128 : Int32) = q := by
  have a := c_iadd q 128
  have b := c_isub (q + 128) 128
  have r1 := rng32 q
  have r2 := rng32 (q + 128 - 128)
  exact Int32.toInt_inj.mp (by omega)
theorem d12_0 : decode jdk_18_method_1_code 0 = .ok (.aload_n 0, 1) := by decide +kernel
theorem d12_1 : decode jdk_18_method_1_code 1 = .ok (.invokespecial 1, 3) := by decide +kernel
theorem d12_4 : decode jdk_18_method_1_code 4 = .ok (.return_, 1) := by decide +kernel
theorem pn_0 : plainName "java/lang/Number" = true := by first | (simp [plainName, overriddenIn]; done) | decide +kernel
set_option maxRecDepth 65536 in
set_option maxHeartbeats 40000000 in
theorem rm12 (l : Launch) (Z : State) (a0 : Array Value) {w_ic : Addr} {cl_ic : Cell} (CX : Ctx Z a0 w_ic cl_ic) (ws : List Jvm.Cond) (a1 : Addr) (h0 : Heap) (O : Ext Z.heap h0)  :
    MetFree l (⟨"java/lang/Number", "<init>", "()V"⟩ : MethodName) (head1 (Jvm.Cond.code (⟨"java/lang/Number", "<init>", "()V"⟩ : MethodName) jdk_18_method_1_code 1 none :: ws) ({ frames := 1, cells := 0, slots := 0, locals := 12 } : Room)) (fun a U => a = #[(.ref a1)] ∧ Z.Warmed39 U.vm ∧ U.heap = h0) (fun _ _ _ _ _ => True) (fun _ U o U' => ∃ v L, o = .returned v ∧ QV Z h0 v U'.heap L ∧ FrameEnd U o U' L ({ frames := 1, cells := 0, slots := 0, locals := 12 } : Room).cells ({ frames := 1, cells := 0, slots := 0, locals := 12 } : Room).slots) := by
  refine MetFree.of_bodySF (plainFor_of_name pn_0) hisR ?_
  intro p e s m args below meth c s₁ Bd hml0 hP hK
  obtain ⟨rfl, hZ, hh⟩ := hP
  have CX0 := CX
  obtain ⟨hw, S_ih, S_ic, B_ic, -⟩ := CX0
  have hx := Bd.exec
  have hby := Bd.bytes
  have hml : c.maxLocals = 1 := hml0
  have hown : s.vm.findClass "java/lang/Number" = some m.cls := findClass_of_methodNamed Bd.named
  have hnm := (name_of_methodNamed Bd.named Bd.method).1
  have hlk : meth.locks = false := BodyLoose.notSynchronized Bd
  have X0 : Stand p l e ({ frames := 1, cells := 0, slots := 0, locals := 12 } : Room) s m #[(.ref a1)] below meth c s₁ [] 0 0 := Stand.of_body Bd
  have e0 : s₁.heap = h0 := by rw [← hh, Bd.state]; rfl
  have N := Fr.nil Z.heap.size
  show own_Done p.tables e below (own_R (QV Z h0) s 0 0) s₁ (entryFrame m #[(.ref a1)] 1)
  refine own_st (T' := s₁) (F' := (mkF m 0 #[.val (.ref a1)] [])) (fun t k => castTop (by first | rfl | (simp [entryFrame, mkF, argsToLocals, Value.category]; done)) k) ?_
  refine own_st (T' := s₁) (F' := (mkF m 1 #[.val (.ref a1)] [(.ref a1)])) (fun t k => XS.aloadN X0.here hx rfl (hb hby d12_0) rfl rfl k) ?_
  obtain ⟨T1, X1, e1, st1⟩ := initO X0 hx hZ hown (hw _ (List.mem_of_getElem? (i := 70) rfl)) (hw _ (List.mem_of_getElem? (i := 7) rfl)) (hw _ (List.mem_of_getElem? (i := 8) rfl)) e0 (g := (mkF m 1 #[.val (.ref a1)] [(.ref a1)])) rfl (by rw [hml]; rfl) rfl (hb hby d12_1) (by decide) (W := 0) (by show 2 * 0 + _ ≤ _; exact Nat.le_of_eq rfl) (by decide)
  refine own_st (T' := T1) (F' := (mkF m 4 #[.val (.ref a1)] [])) st1 ?_
  exact own_retV X1 hx Bd.returns (hb hby d12_4) hlk (by show QV Z h0 _ T1.heap _; rw [e1]; exact ⟨rfl, N, rfl⟩) (by decide) (by decide)
def Q_rm11 (Z : State) (a1 : Addr) (p1 : Int32) (u_value : Int32) (h0 : Heap) (v : Option Value) (h : Heap) (L : List Loc) : Prop := v = none ∧ Fr Z.heap.size L ∧ Keep h0 h [a1] ∧ Fld Z h a1 "java/lang/Integer" "value" "I" (.int p1)
theorem d11_0 : decode jdk_33_method_23_code 0 = .ok (.aload_n 0, 1) := by decide +kernel
theorem d11_1 : decode jdk_33_method_23_code 1 = .ok (.invokespecial 202, 3) := by decide +kernel
theorem d11_4 : decode jdk_33_method_23_code 4 = .ok (.aload_n 0, 1) := by decide +kernel
theorem d11_5 : decode jdk_33_method_23_code 5 = .ok (.iload_n 1, 1) := by decide +kernel
theorem d11_6 : decode jdk_33_method_23_code 6 = .ok (.putfield 205, 3) := by decide +kernel
theorem d11_9 : decode jdk_33_method_23_code 9 = .ok (.return_, 1) := by decide +kernel
theorem pn_1 : plainName "java/lang/Integer" = true := by first | (simp [plainName, overriddenIn]; done) | decide +kernel
theorem pd_0 : parseMethodDescriptor "()V" = some ⟨[], none⟩ := by decide +kernel
set_option maxRecDepth 65536 in
set_option maxHeartbeats 40000000 in
theorem rm11 (l : Launch) (Z : State) (a0 : Array Value) {w_ic : Addr} {cl_ic : Cell} (CX : Ctx Z a0 w_ic cl_ic) (ws : List Jvm.Cond) (a1 : Addr) (p1 : Int32) (u_value : Int32) (h0 : Heap) (O : Ext Z.heap h0) (E_a1 : Exa Z h0 a1 "java/lang/Integer") (g_a1 : Z.heap.size ≤ a1) (F_value : Fld Z h0 a1 "java/lang/Integer" "value" "I" (.int u_value)) :
    MetFree l (⟨"java/lang/Integer", "<init>", "(I)V"⟩ : MethodName) (head1 (Jvm.Cond.code (⟨"java/lang/Integer", "<init>", "(I)V"⟩ : MethodName) jdk_33_method_23_code 2 none :: ws) ({ frames := 2, cells := 0, slots := 0, locals := 24 } : Room)) (fun a U => a = #[(.ref a1), (.int p1)] ∧ Z.Warmed39 U.vm ∧ U.heap = h0) (fun _ _ _ _ _ => True) (fun _ U o U' => ∃ v L, o = .returned v ∧ Q_rm11 Z a1 p1 u_value h0 v U'.heap L ∧ FrameEnd U o U' L ({ frames := 2, cells := 0, slots := 0, locals := 24 } : Room).cells ({ frames := 2, cells := 0, slots := 0, locals := 24 } : Room).slots) := by
  refine MetFree.of_bodySF (plainFor_of_name pn_1) hisR ?_
  intro p e s m args below meth c s₁ Bd hml0 hP hK
  obtain ⟨rfl, hZ, hh⟩ := hP
  have CX0 := CX
  obtain ⟨hw, S_ih, S_ic, B_ic, -⟩ := CX0
  have hx := Bd.exec
  have hby := Bd.bytes
  have hml : c.maxLocals = 2 := hml0
  have hown : s.vm.findClass "java/lang/Integer" = some m.cls := findClass_of_methodNamed Bd.named
  have hnm := (name_of_methodNamed Bd.named Bd.method).1
  have hlk : meth.locks = false := BodyLoose.notSynchronized Bd
  have X0 : Stand p l e ({ frames := 2, cells := 0, slots := 0, locals := 24 } : Room) s m #[(.ref a1), (.int p1)] below meth c s₁ [] 0 0 := Stand.of_body Bd
  have e0 : s₁.heap = h0 := by rw [← hh, Bd.state]; rfl
  have N := Fr.nil Z.heap.size
  show own_Done p.tables e below (own_R (Q_rm11 Z a1 p1 u_value h0) s 0 0) s₁ (entryFrame m #[(.ref a1), (.int p1)] 2)
  refine own_st (T' := s₁) (F' := (mkF m 0 #[.val (.ref a1), .val (.int p1)] [])) (fun t k => castTop (by first | rfl | (simp [entryFrame, mkF, argsToLocals, Value.category]; done)) k) ?_
  have KP := Keep.refl h0 [a1]
  refine own_st (T' := s₁) (F' := (mkF m 1 #[.val (.ref a1), .val (.int p1)] [(.ref a1)])) (fun t k => XS.aloadN X0.here hx rfl (hb hby d11_0) rfl rfl k) ?_
  obtain ⟨v1, _, ⟨T1, L1, k1, n1⟩, -, X1, ⟨Lc1, hQ1, l1, y1, z1⟩, st1⟩ := X0.specialBack hx (y := (⟨"java/lang/Number", "<init>", "()V"⟩ : MethodName)) rfl hown (mvT hZ (hw _ (List.mem_of_getElem? (i := 64) rfl))) (mvT hZ (hw _ (List.mem_of_getElem? (i := 65) rfl))) (mvT hZ (hw _ (List.mem_of_getElem? (i := 69) rfl))) (by decide) (backOf (W := 0) (rm12 l Z a0 CX [] a1 h0 O) hZ (hw _ (List.mem_of_getElem? (i := 69) rfl)) (hw _ (List.mem_of_getElem? (i := 68) rfl)) (by decide) (by decide)) (g := (mkF m 1 #[.val (.ref a1), .val (.int p1)] [(.ref a1)])) rfl (by rw [hml]; rfl) (Steps.refl _) (a := a1) (argsL := []) (rest := []) (lenOf pd_0 rfl) rfl (by show 2 * 0 + _ ≤ _; exact Nat.le_of_eq rfl) (hb hby d11_1) (fun _ _ => ⟨rfl, e0, (by decide : 0 + 0 ≤ _), (by decide : 0 + 0 ≤ _)⟩)
  dsimp only [Pt.U, Pt.locs, Pt.cells, Pt.slots] at X1 l1 y1 z1 st1 hQ1
  subst l1 y1 z1
  obtain ⟨rfl, N1q, e1⟩ := hQ1
  have N := Fr.app N N1q
  refine own_tr (T' := T1) (F' := (mkF m 4 #[.val (.ref a1), .val (.int p1)] [])) st1 ?_
  refine own_st (T' := T1) (F' := (mkF m 5 #[.val (.ref a1), .val (.int p1)] [(.ref a1)])) (fun t k => XS.aloadN X1.here hx rfl (hb hby d11_4) rfl rfl k) ?_
  refine own_st (T' := T1) (F' := (mkF m 6 #[.val (.ref a1), .val (.int p1)] [(.int p1), (.ref a1)])) (fun t k => XS.iloadN X1.here hx rfl (hb hby d11_5) rfl k) ?_
  obtain ⟨T2, h2, X2, e2, W2, st2⟩ := putF X1 hx hZ hown (host := "") (Or.inl (hw _ (List.mem_of_getElem? (i := 53) rfl))) Via.refl e1 F_value E_a1 (Or.inr ⟨(hw _ (List.mem_of_getElem? (i := 54) rfl)), rfl, hnm⟩) (hw _ (List.mem_of_getElem? (i := 60) rfl)) (ty := .int) (by decide) rfl rfl (g := (mkF m 6 #[.val (.ref a1), .val (.int p1)] [(.int p1), (.ref a1)])) rfl rfl (hb hby d11_6)
  have E_a1 := E_a1.wr W2
  have O := own_O_wr O W2 g_a1
  have N := Fr.snoc X2 N g_a1
  have KP := KP.wr W2 (Or.inl (List.mem_of_getElem? (i := 0) rfl))
  have F_value := F_value.same W2
  refine own_st (T' := T2) (F' := (mkF m 9 #[.val (.ref a1), .val (.int p1)] [])) st2 ?_
  exact own_retV X2 hx Bd.returns (hb hby d11_9) hlk (by show Q_rm11 Z a1 p1 u_value h0 _ T2.heap _; rw [e2]; exact ⟨rfl, N, KP, F_value⟩) (by decide) (by decide)
theorem d3_0 : decode jdk_33_method_22_code 0 = .ok (.iload_n 0, 1) := by decide +kernel
theorem d3_1 : decode jdk_33_method_22_code 1 = .ok (.bipush (-128), 2) := by decide +kernel
theorem d3_3 : decode jdk_33_method_22_code 3 = .ok (.if_icmp .lt 20, 3) := by decide +kernel
theorem d3_6 : decode jdk_33_method_22_code 6 = .ok (.iload_n 0, 1) := by decide +kernel
theorem d3_7 : decode jdk_33_method_22_code 7 = .ok (.getstatic 191, 3) := by decide +kernel
theorem d3_10 : decode jdk_33_method_22_code 10 = .ok (.if_icmp .gt 13, 3) := by decide +kernel
theorem d3_13 : decode jdk_33_method_22_code 13 = .ok (.getstatic 195, 3) := by decide +kernel
theorem d3_16 : decode jdk_33_method_22_code 16 = .ok (.iload_n 0, 1) := by decide +kernel
theorem d3_17 : decode jdk_33_method_22_code 17 = .ok (.sipush 128, 3) := by decide +kernel
theorem d3_20 : decode jdk_33_method_22_code 20 = .ok (.iadd, 1) := by decide +kernel
theorem d3_21 : decode jdk_33_method_22_code 21 = .ok (.aaload, 1) := by decide +kernel
theorem d3_22 : decode jdk_33_method_22_code 22 = .ok (.areturn, 1) := by decide +kernel
theorem d3_23 : decode jdk_33_method_22_code 23 = .ok (.new 1, 3) := by decide +kernel
theorem d3_26 : decode jdk_33_method_22_code 26 = .ok (.dup, 1) := by decide +kernel
theorem d3_27 : decode jdk_33_method_22_code 27 = .ok (.iload_n 0, 1) := by decide +kernel
theorem d3_28 : decode jdk_33_method_22_code 28 = .ok (.invokespecial 199, 3) := by decide +kernel
theorem d3_31 : decode jdk_33_method_22_code 31 = .ok (.areturn, 1) := by decide +kernel
theorem pd_1 : parseMethodDescriptor "(I)V" = some ⟨[.int], none⟩ := by decide +kernel
set_option maxRecDepth 65536 in
set_option maxHeartbeats 40000000 in
theorem rm3 (l : Launch) (Z : State) (a0 : Array Value) {w_ic : Addr} {cl_ic : Cell} (CX : Ctx Z a0 w_ic cl_ic) (ws : List Jvm.Cond) (p1 : Int32) (h0 : Heap) (O : Ext Z.heap h0)  :
    MetFree l (⟨"java/lang/Integer", "valueOf", "(I)Ljava/lang/Integer;"⟩ : MethodName) (head1 (Jvm.Cond.code (⟨"java/lang/Integer", "valueOf", "(I)Ljava/lang/Integer;"⟩ : MethodName) jdk_33_method_22_code 1 (some (.object "java/lang/Integer")) :: ws) ({ frames := 3, cells := 1, slots := 1, locals := 38 } : Room)) (fun a U => a = #[(.int p1)] ∧ Z.Warmed39 U.vm ∧ U.heap = h0) (fun _ _ _ _ _ => True) (fun _ U o U' => ∃ v L, o = .returned v ∧ QI Z p1 h0 v U'.heap L ∧ FrameEnd U o U' L ({ frames := 3, cells := 1, slots := 1, locals := 38 } : Room).cells ({ frames := 3, cells := 1, slots := 1, locals := 38 } : Room).slots) := by
  refine MetFree.of_bodySF (plainFor_of_name pn_1) hisR ?_
  intro p e s m args below meth c s₁ Bd hml0 hP hK
  obtain ⟨rfl, hZ, hh⟩ := hP
  have CX0 := CX
  obtain ⟨hw, S_ih, S_ic, B_ic, -⟩ := CX0
  have hx := Bd.exec
  have hby := Bd.bytes
  have hml : c.maxLocals = 1 := hml0
  have hown : s.vm.findClass "java/lang/Integer" = some m.cls := findClass_of_methodNamed Bd.named
  have hnm := (name_of_methodNamed Bd.named Bd.method).1
  have hlk : meth.locks = false := BodyLoose.notSynchronized Bd
  have X0 : Stand p l e ({ frames := 3, cells := 1, slots := 1, locals := 38 } : Room) s m #[(.int p1)] below meth c s₁ [] 0 0 := Stand.of_body Bd
  have e0 : s₁.heap = h0 := by rw [← hh, Bd.state]; rfl
  have N := Fr.nil Z.heap.size
  show own_Done p.tables e below (own_R (QI Z p1 h0) s 1 1) s₁ (entryFrame m #[(.int p1)] 1)
  refine own_st (T' := s₁) (F' := (mkF m 0 #[.val (.int p1)] [])) (fun t k => castTop (by first | rfl | (simp [entryFrame, mkF, argsToLocals, Value.category]; done)) k) ?_
  have KP := Keep.refl h0 []
  refine own_st (T' := s₁) (F' := (mkF m 1 #[.val (.int p1)] [(.int p1)])) (fun t k => XS.iloadN X0.here hx rfl (hb hby d3_0) rfl k) ?_
  refine own_st (T' := s₁) (F' := (mkF m 3 #[.val (.int p1)] [(.int (-128 : Int32)), (.int p1)])) (fun t k => XS.bipush X0.here hx rfl (hb hby d3_1) k) ?_
  by_cases hc3_1 : p1 < (-128 : Int32)
  · refine own_st (T' := s₁) (F' := (mkF m 23 #[.val (.int p1)] [])) (fun t k => XS.icmpYes X0.here hx rfl (pc0 := 3) (pc' := 23) rfl (hb hby d3_3) rfl (tlt hc3_1).1 (by decide) (by decide) k) ?_
    obtain ⟨T2, h2, X2, e2, E2, A2, D2, U2, st2⟩ := newO X0 hx hZ hown (hw _ (List.mem_of_getElem? (i := 51) rfl)) (hw _ (List.mem_of_getElem? (i := 60) rfl)) (hw _ (List.mem_of_getElem? (i := 11) rfl)) e0 (g := (mkF m 23 #[.val (.int p1)] [])) rfl (hb hby d3_23) (by decide) (by decide)
    obtain ⟨b2, g2⟩ : ∃ z, z = h0.size := ⟨_, rfl⟩
    rw [← g2] at A2 D2 U2 st2
    have g_b2 : Z.heap.size ≤ b2 := Nat.le_trans O.1 (Nat.le_of_eq g2.symm)
    have k_b2 : h0.size ≤ b2 := Nat.le_trans KP.1 (Nat.le_of_eq g2.symm)
    have O := own_ext_trans O E2
    have KP := KP.ext E2
    have E_b2 := A2
    have F_value_b2 : Fld Z h2 b2 "java/lang/Integer" "value" "I" (.int (0 : Int32)) := D2 (Or.inr (hw _ (List.mem_of_getElem? (i := 54) rfl))) (ty := .int) (by decide)
    refine own_st (T' := T2) (F' := (mkF m 26 #[.val (.int p1)] [(.ref b2)])) st2 ?_
    refine own_st (T' := T2) (F' := (mkF m 27 #[.val (.int p1)] [(.ref b2), (.ref b2)])) (fun t k => XS.dup X2.here hx rfl (hb hby d3_26) rfl rfl k) ?_
    refine own_st (T' := T2) (F' := (mkF m 28 #[.val (.int p1)] [(.int p1), (.ref b2), (.ref b2)])) (fun t k => XS.iloadN X2.here hx rfl (hb hby d3_27) rfl k) ?_
    obtain ⟨v3, _, ⟨T3, L3, k3, n3⟩, -, X3, ⟨Lc3, hQ3, l3, y3, z3⟩, st3⟩ := X2.specialBack hx (y := (⟨"java/lang/Integer", "<init>", "(I)V"⟩ : MethodName)) rfl hown (mvT hZ (hw _ (List.mem_of_getElem? (i := 61) rfl))) (mvT hZ (hw _ (List.mem_of_getElem? (i := 62) rfl))) (mvT hZ (hw _ (List.mem_of_getElem? (i := 63) rfl))) (by decide) (backOf (W := 1) (rm11 l Z a0 CX [] b2 p1 (0 : Int32) h2 O E_b2 g_b2 F_value_b2) hZ (hw _ (List.mem_of_getElem? (i := 63) rfl)) (hw _ (List.mem_of_getElem? (i := 11) rfl)) (by decide) (by decide)) (g := (mkF m 28 #[.val (.int p1)] [(.int p1), (.ref b2), (.ref b2)])) rfl (by rw [hml]; rfl) (Steps.refl _) (a := b2) (argsL := [(.int p1)]) (rest := [(.ref b2)]) (lenOf pd_1 rfl) rfl (by show 2 * 0 + _ ≤ _; exact Nat.le_of_eq rfl) (hb hby d3_28) (fun _ _ => ⟨rfl, e2, (by decide : 1 + 0 ≤ _), (by decide : 1 + 0 ≤ _)⟩)
    dsimp only [Pt.U, Pt.locs, Pt.cells, Pt.slots] at X3 l3 y3 z3 st3 hQ3
    subst l3 y3 z3
    obtain ⟨rfl, N3q, K3, F_value_b2⟩ := hQ3
    have N := Fr.app N N3q
    have E_b2 := E_b2.keep K3
    have O := own_O_keep O K3 (allS g_b2 all0)
    have KP := KP.trans K3 (allS (Or.inr k_b2) all0)
    refine own_tr (T' := T3) (F' := (mkF m 31 #[.val (.int p1)] [(.ref b2)])) st3 ?_
    exact own_retA X3 hx (t := (.object "java/lang/Integer")) Bd.returns rfl rfl (hb hby d3_31) hlk (⟨_, rfl, N, own_ext_keep KP, E_b2, F_value_b2⟩) (by decide) (by decide)
  · refine own_st (T' := s₁) (F' := (mkF m 6 #[.val (.int p1)] [])) (fun t k => XS.icmpNo X0.here hx rfl (hb hby d3_3) rfl (flt hc3_1).1 k) ?_
    refine own_st (T' := s₁) (F' := (mkF m 7 #[.val (.int p1)] [(.int p1)])) (fun t k => XS.iloadN X0.here hx rfl (hb hby d3_6) rfl k) ?_
    obtain ⟨T4, X4, e4, st4⟩ := getS2 X0 hx hZ hown (host := "") (Or.inl (hw _ (List.mem_of_getElem? (i := 13) rfl))) Via.refl e0 (S_ih.ext O) (g := (mkF m 7 #[.val (.int p1)] [(.int p1)])) rfl (hb hby d3_7)
    refine own_st (T' := T4) (F' := (mkF m 10 #[.val (.int p1)] [(.int (127 : Int32)), (.int p1)])) st4 ?_
    by_cases hc10_5 : (127 : Int32) < p1
    · refine own_st (T' := T4) (F' := (mkF m 23 #[.val (.int p1)] [])) (fun t k => XS.icmpYes X4.here hx rfl (pc0 := 10) (pc' := 23) rfl (hb hby d3_10) rfl (tlt hc10_5).2.2.1 (by decide) (by decide) k) ?_
      obtain ⟨T6, h6, X6, e6, E6, A6, D6, U6, st6⟩ := newO X4 hx hZ hown (hw _ (List.mem_of_getElem? (i := 51) rfl)) (hw _ (List.mem_of_getElem? (i := 60) rfl)) (hw _ (List.mem_of_getElem? (i := 11) rfl)) e4 (g := (mkF m 23 #[.val (.int p1)] [])) rfl (hb hby d3_23) (by decide) (by decide)
      obtain ⟨b6, g6⟩ : ∃ z, z = h0.size := ⟨_, rfl⟩
      rw [← g6] at A6 D6 U6 st6
      have g_b6 : Z.heap.size ≤ b6 := Nat.le_trans O.1 (Nat.le_of_eq g6.symm)
      have k_b6 : h0.size ≤ b6 := Nat.le_trans KP.1 (Nat.le_of_eq g6.symm)
      have O := own_ext_trans O E6
      have KP := KP.ext E6
      have E_b6 := A6
      have F_value_b6 : Fld Z h6 b6 "java/lang/Integer" "value" "I" (.int (0 : Int32)) := D6 (Or.inr (hw _ (List.mem_of_getElem? (i := 54) rfl))) (ty := .int) (by decide)
      refine own_st (T' := T6) (F' := (mkF m 26 #[.val (.int p1)] [(.ref b6)])) st6 ?_
      refine own_st (T' := T6) (F' := (mkF m 27 #[.val (.int p1)] [(.ref b6), (.ref b6)])) (fun t k => XS.dup X6.here hx rfl (hb hby d3_26) rfl rfl k) ?_
      refine own_st (T' := T6) (F' := (mkF m 28 #[.val (.int p1)] [(.int p1), (.ref b6), (.ref b6)])) (fun t k => XS.iloadN X6.here hx rfl (hb hby d3_27) rfl k) ?_
      obtain ⟨v7, _, ⟨T7, L7, k7, n7⟩, -, X7, ⟨Lc7, hQ7, l7, y7, z7⟩, st7⟩ := X6.specialBack hx (y := (⟨"java/lang/Integer", "<init>", "(I)V"⟩ : MethodName)) rfl hown (mvT hZ (hw _ (List.mem_of_getElem? (i := 61) rfl))) (mvT hZ (hw _ (List.mem_of_getElem? (i := 62) rfl))) (mvT hZ (hw _ (List.mem_of_getElem? (i := 63) rfl))) (by decide) (backOf (W := 1) (rm11 l Z a0 CX [] b6 p1 (0 : Int32) h6 O E_b6 g_b6 F_value_b6) hZ (hw _ (List.mem_of_getElem? (i := 63) rfl)) (hw _ (List.mem_of_getElem? (i := 11) rfl)) (by decide) (by decide)) (g := (mkF m 28 #[.val (.int p1)] [(.int p1), (.ref b6), (.ref b6)])) rfl (by rw [hml]; rfl) (Steps.refl _) (a := b6) (argsL := [(.int p1)]) (rest := [(.ref b6)]) (lenOf pd_1 rfl) rfl (by show 2 * 0 + _ ≤ _; exact Nat.le_of_eq rfl) (hb hby d3_28) (fun _ _ => ⟨rfl, e6, (by decide : 1 + 0 ≤ _), (by decide : 1 + 0 ≤ _)⟩)
      dsimp only [Pt.U, Pt.locs, Pt.cells, Pt.slots] at X7 l7 y7 z7 st7 hQ7
      subst l7 y7 z7
      obtain ⟨rfl, N7q, K7, F_value_b6⟩ := hQ7
      have N := Fr.app N N7q
      have E_b6 := E_b6.keep K7
      have O := own_O_keep O K7 (allS g_b6 all0)
      have KP := KP.trans K7 (allS (Or.inr k_b6) all0)
      refine own_tr (T' := T7) (F' := (mkF m 31 #[.val (.int p1)] [(.ref b6)])) st7 ?_
      exact own_retA X7 hx (t := (.object "java/lang/Integer")) Bd.returns rfl rfl (hb hby d3_31) hlk (⟨_, rfl, N, own_ext_keep KP, E_b6, F_value_b6⟩) (by decide) (by decide)
    · refine own_st (T' := T4) (F' := (mkF m 13 #[.val (.int p1)] [])) (fun t k => XS.icmpNo X4.here hx rfl (hb hby d3_10) rfl (flt hc10_5).2.2.1 k) ?_
      obtain ⟨T8, X8, e8, st8⟩ := getS2 X4 hx hZ hown (host := "") (Or.inl (hw _ (List.mem_of_getElem? (i := 15) rfl))) Via.refl e4 (S_ic.ext O) (g := (mkF m 13 #[.val (.int p1)] [])) rfl (hb hby d3_13)
      refine own_st (T' := T8) (F' := (mkF m 16 #[.val (.int p1)] [(.ref w_ic)])) st8 ?_
      refine own_st (T' := T8) (F' := (mkF m 17 #[.val (.int p1)] [(.int p1), (.ref w_ic)])) (fun t k => XS.iloadN X8.here hx rfl (hb hby d3_16) rfl k) ?_
      refine own_st (T' := T8) (F' := (mkF m 20 #[.val (.int p1)] [(.int (128 : Int32)), (.int p1), (.ref w_ic)])) (fun t k => XS.sipush X8.here hx rfl (hb hby d3_17) k) ?_
      refine own_st (T' := T8) (F' := (mkF m 21 #[.val (.int p1)] [(.int (p1 + (128 : Int32))), (.ref w_ic)])) (fun t k => XS.iadd X8.here hx rfl (hb hby d3_20) rfl k) ?_
      have hin9 : ¬ ((p1 + (128 : Int32)) < 0 ∨ cl_ic.slots.size ≤ ((p1 + (128 : Int32))).toNatClampNeg) := inb_of B_ic.2.1 (own_iidx _ hc3_1 hc10_5)
      obtain ⟨r9, hat9, Er9, Fr9⟩ := B_ic.2.2.2 _ hin9
      simp only [own_iback] at Fr9
      refine own_st (T' := T8) (F' := (mkF m 22 #[.val (.int p1)] [(.ref r9)])) (fun t k => X8.aaload hx (j := (p1 + (128 : Int32))) (v := (.ref r9)) (by rw [e8]; exact (B_ic.1.ext O).1) (State.isArrayOf_alike hZ.alike B_ic.1.2.1) rfl B_ic.1.2.2 hin9 hat9 (g := (mkF m 21 #[.val (.int p1)] [(.int (p1 + (128 : Int32))), (.ref w_ic)])) rfl rfl (hb hby d3_21) _ k) ?_
      exact own_retA X8 hx (t := (.object "java/lang/Integer")) Bd.returns rfl rfl (hb hby d3_22) hlk (by show QI Z p1 h0 _ T8.heap _; rw [e8]; exact ⟨_, rfl, N, own_ext_keep KP, (Er9.ext O), (Fr9.ext O)⟩) (by decide) (by decide)
def Q_rm1 (Z : State) (a1 : Addr) (u_trackId : Value) (hu_trackId : u_trackId.isRef = true) (u_playlistId : Value) (hu_playlistId : u_playlistId.isRef = true) (h0 : Heap) (v : Option Value) (h : Heap) (L : List Loc) : Prop := v = none ∧ Fr Z.heap.size L ∧ Keep h0 h [a1] ∧ Fld Z h a1 "com/example/entigate/entigate/sample/PlaylistTrackId" "trackId" "Ljava/lang/Integer;" u_trackId ∧ Fld Z h a1 "com/example/entigate/entigate/sample/PlaylistTrackId" "playlistId" "Ljava/lang/Integer;" u_playlistId
theorem d1_0 : decode prog_2_method_1_code 0 = .ok (.aload_n 0, 1) := by decide +kernel
theorem d1_1 : decode prog_2_method_1_code 1 = .ok (.invokespecial 1, 3) := by decide +kernel
theorem d1_4 : decode prog_2_method_1_code 4 = .ok (.return_, 1) := by decide +kernel
theorem pn_2 : plainName "com/example/entigate/entigate/sample/PlaylistTrackId" = true := by first | (simp [plainName, overriddenIn]; done) | decide +kernel
set_option maxRecDepth 65536 in
set_option maxHeartbeats 40000000 in
theorem rm1 (l : Launch) (Z : State) (a0 : Array Value) {w_ic : Addr} {cl_ic : Cell} (CX : Ctx Z a0 w_ic cl_ic) (ws : List Jvm.Cond) (a1 : Addr) (u_trackId : Value) (hu_trackId : u_trackId.isRef = true) (u_playlistId : Value) (hu_playlistId : u_playlistId.isRef = true) (h0 : Heap) (O : Ext Z.heap h0) (E_a1 : Exa Z h0 a1 "com/example/entigate/entigate/sample/PlaylistTrackId") (g_a1 : Z.heap.size ≤ a1) (F_trackId : Fld Z h0 a1 "com/example/entigate/entigate/sample/PlaylistTrackId" "trackId" "Ljava/lang/Integer;" u_trackId) (F_playlistId : Fld Z h0 a1 "com/example/entigate/entigate/sample/PlaylistTrackId" "playlistId" "Ljava/lang/Integer;" u_playlistId) :
    MetFree l (⟨"com/example/entigate/entigate/sample/PlaylistTrackId", "<init>", "()V"⟩ : MethodName) (head1 (Jvm.Cond.code (⟨"com/example/entigate/entigate/sample/PlaylistTrackId", "<init>", "()V"⟩ : MethodName) prog_2_method_1_code 1 none :: ws) ({ frames := 1, cells := 0, slots := 0, locals := 12 } : Room)) (fun a U => a = #[(.ref a1)] ∧ Z.Warmed39 U.vm ∧ U.heap = h0) (fun _ _ _ _ _ => True) (fun _ U o U' => ∃ v L, o = .returned v ∧ Q_rm1 Z a1 u_trackId hu_trackId u_playlistId hu_playlistId h0 v U'.heap L ∧ FrameEnd U o U' L ({ frames := 1, cells := 0, slots := 0, locals := 12 } : Room).cells ({ frames := 1, cells := 0, slots := 0, locals := 12 } : Room).slots) := by
  refine MetFree.of_bodySF (plainFor_of_name pn_2) hisR ?_
  intro p e s m args below meth c s₁ Bd hml0 hP hK
  obtain ⟨rfl, hZ, hh⟩ := hP
  have CX0 := CX
  obtain ⟨hw, S_ih, S_ic, B_ic, -⟩ := CX0
  have hx := Bd.exec
  have hby := Bd.bytes
  have hml : c.maxLocals = 1 := hml0
  have hown : s.vm.findClass "com/example/entigate/entigate/sample/PlaylistTrackId" = some m.cls := findClass_of_methodNamed Bd.named
  have hnm := (name_of_methodNamed Bd.named Bd.method).1
  have hlk : meth.locks = false := BodyLoose.notSynchronized Bd
  have X0 : Stand p l e ({ frames := 1, cells := 0, slots := 0, locals := 12 } : Room) s m #[(.ref a1)] below meth c s₁ [] 0 0 := Stand.of_body Bd
  have e0 : s₁.heap = h0 := by rw [← hh, Bd.state]; rfl
  have N := Fr.nil Z.heap.size
  show own_Done p.tables e below (own_R (Q_rm1 Z a1 u_trackId hu_trackId u_playlistId hu_playlistId h0) s 0 0) s₁ (entryFrame m #[(.ref a1)] 1)
  refine own_st (T' := s₁) (F' := (mkF m 0 #[.val (.ref a1)] [])) (fun t k => castTop (by first | rfl | (simp [entryFrame, mkF, argsToLocals, Value.category]; done)) k) ?_
  have KP := Keep.refl h0 [a1]
  refine own_st (T' := s₁) (F' := (mkF m 1 #[.val (.ref a1)] [(.ref a1)])) (fun t k => XS.aloadN X0.here hx rfl (hb hby d1_0) rfl rfl k) ?_
  obtain ⟨T1, X1, e1, st1⟩ := initO X0 hx hZ hown (hw _ (List.mem_of_getElem? (i := 6) rfl)) (hw _ (List.mem_of_getElem? (i := 7) rfl)) (hw _ (List.mem_of_getElem? (i := 8) rfl)) e0 (g := (mkF m 1 #[.val (.ref a1)] [(.ref a1)])) rfl (by rw [hml]; rfl) rfl (hb hby d1_1) (by decide) (W := 0) (by show 2 * 0 + _ ≤ _; exact Nat.le_of_eq rfl) (by decide)
  refine own_st (T' := T1) (F' := (mkF m 4 #[.val (.ref a1)] [])) st1 ?_
  exact own_retV X1 hx Bd.returns (hb hby d1_4) hlk (by show Q_rm1 Z a1 u_trackId hu_trackId u_playlistId hu_playlistId h0 _ T1.heap _; rw [e1]; exact ⟨rfl, N, KP, F_trackId, F_playlistId⟩) (by decide) (by decide)
def Q_rm4 (Z : State) (a1 : Addr) (p1 : Value) (hp1 : p1.isRef = true) (u_trackId : Value) (hu_trackId : u_trackId.isRef = true) (u_playlistId : Value) (hu_playlistId : u_playlistId.isRef = true) (h0 : Heap) (v : Option Value) (h : Heap) (L : List Loc) : Prop := v = none ∧ Fr Z.heap.size L ∧ Keep h0 h [a1] ∧ Fld Z h a1 "com/example/entigate/entigate/sample/PlaylistTrackId" "trackId" "Ljava/lang/Integer;" p1 ∧ Fld Z h a1 "com/example/entigate/entigate/sample/PlaylistTrackId" "playlistId" "Ljava/lang/Integer;" u_playlistId
theorem d4_0 : decode prog_2_method_4_code 0 = .ok (.aload_n 0, 1) := by decide +kernel
theorem d4_1 : decode prog_2_method_4_code 1 = .ok (.aload_n 1, 1) := by decide +kernel
theorem d4_2 : decode prog_2_method_4_code 2 = .ok (.putfield 7, 3) := by decide +kernel
theorem d4_5 : decode prog_2_method_4_code 5 = .ok (.return_, 1) := by decide +kernel
set_option maxRecDepth 65536 in
set_option maxHeartbeats 40000000 in
theorem rm4 (l : Launch) (Z : State) (a0 : Array Value) {w_ic : Addr} {cl_ic : Cell} (CX : Ctx Z a0 w_ic cl_ic) (ws : List Jvm.Cond) (a1 : Addr) (p1 : Value) (hp1 : p1.isRef = true) (u_trackId : Value) (hu_trackId : u_trackId.isRef = true) (u_playlistId : Value) (hu_playlistId : u_playlistId.isRef = true) (h0 : Heap) (O : Ext Z.heap h0) (E_a1 : Exa Z h0 a1 "com/example/entigate/entigate/sample/PlaylistTrackId") (g_a1 : Z.heap.size ≤ a1) (F_trackId : Fld Z h0 a1 "com/example/entigate/entigate/sample/PlaylistTrackId" "trackId" "Ljava/lang/Integer;" u_trackId) (F_playlistId : Fld Z h0 a1 "com/example/entigate/entigate/sample/PlaylistTrackId" "playlistId" "Ljava/lang/Integer;" u_playlistId) :
    MetFree l (⟨"com/example/entigate/entigate/sample/PlaylistTrackId", "setTrackId", "(Ljava/lang/Integer;)V"⟩ : MethodName) (head1 (Jvm.Cond.code (⟨"com/example/entigate/entigate/sample/PlaylistTrackId", "setTrackId", "(Ljava/lang/Integer;)V"⟩ : MethodName) prog_2_method_4_code 2 none :: ws) ({ frames := 0, cells := 0, slots := 0, locals := 0 } : Room)) (fun a U => a = #[(.ref a1), p1] ∧ Z.Warmed39 U.vm ∧ U.heap = h0) (fun _ _ _ _ _ => True) (fun _ U o U' => ∃ v L, o = .returned v ∧ Q_rm4 Z a1 p1 hp1 u_trackId hu_trackId u_playlistId hu_playlistId h0 v U'.heap L ∧ FrameEnd U o U' L ({ frames := 0, cells := 0, slots := 0, locals := 0 } : Room).cells ({ frames := 0, cells := 0, slots := 0, locals := 0 } : Room).slots) := by
  refine MetFree.of_bodySF (plainFor_of_name pn_2) hisR ?_
  intro p e s m args below meth c s₁ Bd hml0 hP hK
  obtain ⟨rfl, hZ, hh⟩ := hP
  have CX0 := CX
  obtain ⟨hw, S_ih, S_ic, B_ic, -⟩ := CX0
  have hx := Bd.exec
  have hby := Bd.bytes
  have hml : c.maxLocals = 2 := hml0
  have hown : s.vm.findClass "com/example/entigate/entigate/sample/PlaylistTrackId" = some m.cls := findClass_of_methodNamed Bd.named
  have hnm := (name_of_methodNamed Bd.named Bd.method).1
  have hlk : meth.locks = false := BodyLoose.notSynchronized Bd
  have X0 : Stand p l e ({ frames := 0, cells := 0, slots := 0, locals := 0 } : Room) s m #[(.ref a1), p1] below meth c s₁ [] 0 0 := Stand.of_body Bd
  have e0 : s₁.heap = h0 := by rw [← hh, Bd.state]; rfl
  have N := Fr.nil Z.heap.size
  show own_Done p.tables e below (own_R (Q_rm4 Z a1 p1 hp1 u_trackId hu_trackId u_playlistId hu_playlistId h0) s 0 0) s₁ (entryFrame m #[(.ref a1), p1] 2)
  refine own_st (T' := s₁) (F' := (mkF m 0 #[.val (.ref a1), .val p1] [])) (fun t k => castTop (by rcases ref_cases hp1 with rfl | ⟨_, rfl⟩ <;> rfl) k) ?_
  have KP := Keep.refl h0 [a1]
  refine own_st (T' := s₁) (F' := (mkF m 1 #[.val (.ref a1), .val p1] [(.ref a1)])) (fun t k => XS.aloadN X0.here hx rfl (hb hby d4_0) rfl rfl k) ?_
  refine own_st (T' := s₁) (F' := (mkF m 2 #[.val (.ref a1), .val p1] [p1, (.ref a1)])) (fun t k => XS.aloadN X0.here hx rfl (hb hby d4_1) rfl hp1 k) ?_
  obtain ⟨T1, h1, X1, e1, W1, st1⟩ := putF X0 hx hZ hown (host := "") (Or.inl (hw _ (List.mem_of_getElem? (i := 21) rfl))) Via.refl e0 F_trackId E_a1 (Or.inl (hw _ (List.mem_of_getElem? (i := 22) rfl))) (hw _ (List.mem_of_getElem? (i := 1) rfl)) (ty := (.object "java/lang/Integer")) (by decide) (own_narrow hp1) (own_fits rfl hp1) (g := (mkF m 2 #[.val (.ref a1), .val p1] [p1, (.ref a1)])) rfl rfl (hb hby d4_2)
  have E_a1 := E_a1.wr W1
  have F_playlistId := F_playlistId.other W1 (Or.inr (slot_ne (Or.inl (hw _ (List.mem_of_getElem? (i := 29) rfl))) (Or.inl (hw _ (List.mem_of_getElem? (i := 22) rfl))) (by decide) (t := (.object "java/lang/Integer")) (t' := (.object "java/lang/Integer")) (by decide) (by decide)))
  have O := own_O_wr O W1 g_a1
  have N := Fr.snoc X1 N g_a1
  have KP := KP.wr W1 (Or.inl (List.mem_of_getElem? (i := 0) rfl))
  have F_trackId := F_trackId.same W1
  refine own_st (T' := T1) (F' := (mkF m 5 #[.val (.ref a1), .val p1] [])) st1 ?_
  exact own_retV X1 hx Bd.returns (hb hby d4_5) hlk (by show Q_rm4 Z a1 p1 hp1 u_trackId hu_trackId u_playlistId hu_playlistId h0 _ T1.heap _; rw [e1]; exact ⟨rfl, N, KP, F_trackId, F_playlistId⟩) (by decide) (by decide)
def Q_rm5 (Z : State) (a1 : Addr) (p1 : Value) (hp1 : p1.isRef = true) (u_trackId : Value) (hu_trackId : u_trackId.isRef = true) (u_playlistId : Value) (hu_playlistId : u_playlistId.isRef = true) (h0 : Heap) (v : Option Value) (h : Heap) (L : List Loc) : Prop := v = none ∧ Fr Z.heap.size L ∧ Keep h0 h [a1] ∧ Fld Z h a1 "com/example/entigate/entigate/sample/PlaylistTrackId" "trackId" "Ljava/lang/Integer;" u_trackId ∧ Fld Z h a1 "com/example/entigate/entigate/sample/PlaylistTrackId" "playlistId" "Ljava/lang/Integer;" p1
theorem d5_0 : decode prog_2_method_6_code 0 = .ok (.aload_n 0, 1) := by decide +kernel
theorem d5_1 : decode prog_2_method_6_code 1 = .ok (.aload_n 1, 1) := by decide +kernel
theorem d5_2 : decode prog_2_method_6_code 2 = .ok (.putfield 13, 3) := by decide +kernel
theorem d5_5 : decode prog_2_method_6_code 5 = .ok (.return_, 1) := by decide +kernel
set_option maxRecDepth 65536 in
set_option maxHeartbeats 40000000 in
theorem rm5 (l : Launch) (Z : State) (a0 : Array Value) {w_ic : Addr} {cl_ic : Cell} (CX : Ctx Z a0 w_ic cl_ic) (ws : List Jvm.Cond) (a1 : Addr) (p1 : Value) (hp1 : p1.isRef = true) (u_trackId : Value) (hu_trackId : u_trackId.isRef = true) (u_playlistId : Value) (hu_playlistId : u_playlistId.isRef = true) (h0 : Heap) (O : Ext Z.heap h0) (E_a1 : Exa Z h0 a1 "com/example/entigate/entigate/sample/PlaylistTrackId") (g_a1 : Z.heap.size ≤ a1) (F_trackId : Fld Z h0 a1 "com/example/entigate/entigate/sample/PlaylistTrackId" "trackId" "Ljava/lang/Integer;" u_trackId) (F_playlistId : Fld Z h0 a1 "com/example/entigate/entigate/sample/PlaylistTrackId" "playlistId" "Ljava/lang/Integer;" u_playlistId) :
    MetFree l (⟨"com/example/entigate/entigate/sample/PlaylistTrackId", "setPlaylistId", "(Ljava/lang/Integer;)V"⟩ : MethodName) (head1 (Jvm.Cond.code (⟨"com/example/entigate/entigate/sample/PlaylistTrackId", "setPlaylistId", "(Ljava/lang/Integer;)V"⟩ : MethodName) prog_2_method_6_code 2 none :: ws) ({ frames := 0, cells := 0, slots := 0, locals := 0 } : Room)) (fun a U => a = #[(.ref a1), p1] ∧ Z.Warmed39 U.vm ∧ U.heap = h0) (fun _ _ _ _ _ => True) (fun _ U o U' => ∃ v L, o = .returned v ∧ Q_rm5 Z a1 p1 hp1 u_trackId hu_trackId u_playlistId hu_playlistId h0 v U'.heap L ∧ FrameEnd U o U' L ({ frames := 0, cells := 0, slots := 0, locals := 0 } : Room).cells ({ frames := 0, cells := 0, slots := 0, locals := 0 } : Room).slots) := by
  refine MetFree.of_bodySF (plainFor_of_name pn_2) hisR ?_
  intro p e s m args below meth c s₁ Bd hml0 hP hK
  obtain ⟨rfl, hZ, hh⟩ := hP
  have CX0 := CX
  obtain ⟨hw, S_ih, S_ic, B_ic, -⟩ := CX0
  have hx := Bd.exec
  have hby := Bd.bytes
  have hml : c.maxLocals = 2 := hml0
  have hown : s.vm.findClass "com/example/entigate/entigate/sample/PlaylistTrackId" = some m.cls := findClass_of_methodNamed Bd.named
  have hnm := (name_of_methodNamed Bd.named Bd.method).1
  have hlk : meth.locks = false := BodyLoose.notSynchronized Bd
  have X0 : Stand p l e ({ frames := 0, cells := 0, slots := 0, locals := 0 } : Room) s m #[(.ref a1), p1] below meth c s₁ [] 0 0 := Stand.of_body Bd
  have e0 : s₁.heap = h0 := by rw [← hh, Bd.state]; rfl
  have N := Fr.nil Z.heap.size
  show own_Done p.tables e below (own_R (Q_rm5 Z a1 p1 hp1 u_trackId hu_trackId u_playlistId hu_playlistId h0) s 0 0) s₁ (entryFrame m #[(.ref a1), p1] 2)
  refine own_st (T' := s₁) (F' := (mkF m 0 #[.val (.ref a1), .val p1] [])) (fun t k => castTop (by rcases ref_cases hp1 with rfl | ⟨_, rfl⟩ <;> rfl) k) ?_
  have KP := Keep.refl h0 [a1]
  refine own_st (T' := s₁) (F' := (mkF m 1 #[.val (.ref a1), .val p1] [(.ref a1)])) (fun t k => XS.aloadN X0.here hx rfl (hb hby d5_0) rfl rfl k) ?_
  refine own_st (T' := s₁) (F' := (mkF m 2 #[.val (.ref a1), .val p1] [p1, (.ref a1)])) (fun t k => XS.aloadN X0.here hx rfl (hb hby d5_1) rfl hp1 k) ?_
  obtain ⟨T1, h1, X1, e1, W1, st1⟩ := putF X0 hx hZ hown (host := "") (Or.inl (hw _ (List.mem_of_getElem? (i := 28) rfl))) Via.refl e0 F_playlistId E_a1 (Or.inl (hw _ (List.mem_of_getElem? (i := 29) rfl))) (hw _ (List.mem_of_getElem? (i := 1) rfl)) (ty := (.object "java/lang/Integer")) (by decide) (own_narrow hp1) (own_fits rfl hp1) (g := (mkF m 2 #[.val (.ref a1), .val p1] [p1, (.ref a1)])) rfl rfl (hb hby d5_2)
  have E_a1 := E_a1.wr W1
  have F_trackId := F_trackId.other W1 (Or.inr (slot_ne (Or.inl (hw _ (List.mem_of_getElem? (i := 22) rfl))) (Or.inl (hw _ (List.mem_of_getElem? (i := 29) rfl))) (by decide) (t := (.object "java/lang/Integer")) (t' := (.object "java/lang/Integer")) (by decide) (by decide)))
  have O := own_O_wr O W1 g_a1
  have N := Fr.snoc X1 N g_a1
  have KP := KP.wr W1 (Or.inl (List.mem_of_getElem? (i := 0) rfl))
  have F_playlistId := F_playlistId.same W1
  refine own_st (T' := T1) (F' := (mkF m 5 #[.val (.ref a1), .val p1] [])) st1 ?_
  exact own_retV X1 hx Bd.returns (hb hby d5_5) hlk (by show Q_rm5 Z a1 p1 hp1 u_trackId hu_trackId u_playlistId hu_playlistId h0 _ T1.heap _; rw [e1]; exact ⟨rfl, N, KP, F_trackId, F_playlistId⟩) (by decide) (by decide)
theorem d6_0 : decode method_3_code 0 = .ok (.iload_n 0, 1) := by decide +kernel
theorem d6_1 : decode method_3_code 1 = .ok (.ifCond .ne 7, 3) := by decide +kernel
theorem d6_4 : decode method_3_code 4 = .ok (.iload_n 2, 1) := by decide +kernel
theorem d6_5 : decode method_3_code 5 = .ok (.ifCond .eq 17, 3) := by decide +kernel
theorem d6_8 : decode method_3_code 8 = .ok (.iload_n 0, 1) := by decide +kernel
theorem d6_9 : decode method_3_code 9 = .ok (.ifCond .eq 11, 3) := by decide +kernel
theorem d6_12 : decode method_3_code 12 = .ok (.iload_n 2, 1) := by decide +kernel
theorem d6_13 : decode method_3_code 13 = .ok (.ifCond .eq 7, 3) := by decide +kernel
theorem d6_16 : decode method_3_code 16 = .ok (.iconst 1, 1) := by decide +kernel
theorem d6_17 : decode method_3_code 17 = .ok (.goto 4, 3) := by decide +kernel
theorem d6_20 : decode method_3_code 20 = .ok (.iconst 0, 1) := by decide +kernel
theorem d6_21 : decode method_3_code 21 = .ok (.ireturn, 1) := by decide +kernel
theorem d6_22 : decode method_3_code 22 = .ok (.iload_n 1, 1) := by decide +kernel
theorem d6_23 : decode method_3_code 23 = .ok (.iload_n 3, 1) := by decide +kernel
theorem d6_24 : decode method_3_code 24 = .ok (.if_icmp .ne 7, 3) := by decide +kernel
theorem d6_27 : decode method_3_code 27 = .ok (.iconst 1, 1) := by decide +kernel
theorem d6_28 : decode method_3_code 28 = .ok (.goto 4, 3) := by decide +kernel
theorem d6_31 : decode method_3_code 31 = .ok (.iconst 0, 1) := by decide +kernel
theorem d6_32 : decode method_3_code 32 = .ok (.ireturn, 1) := by decide +kernel
theorem pn_3 : plainName "com/example/entigate/entigate/sample/PlaylistTrackIdEqualsPinLaw" = true := by first | (simp [plainName, overriddenIn]; done) | decide +kernel
set_option maxRecDepth 65536 in
set_option maxHeartbeats 40000000 in
theorem rm6 (l : Launch) (Z : State) (a0 : Array Value) {w_ic : Addr} {cl_ic : Cell} (CX : Ctx Z a0 w_ic cl_ic) (ws : List Jvm.Cond) (p1 p2 p3 p4 r : Int32) (h0 : Heap) (O : Ext Z.heap h0) (hr : r = own_eqv p1 p2 p3 p4) :
    MetFree l (⟨"com/example/entigate/entigate/sample/PlaylistTrackIdEqualsPinLaw", "sameField", "(ZIZI)Z"⟩ : MethodName) (head1 (Jvm.Cond.code (⟨"com/example/entigate/entigate/sample/PlaylistTrackIdEqualsPinLaw", "sameField", "(ZIZI)Z"⟩ : MethodName) method_3_code 4 (some .boolean) :: ws) ({ frames := 0, cells := 0, slots := 0, locals := 0 } : Room)) (fun a U => a = #[(.int p1), (.int p2), (.int p3), (.int p4)] ∧ Z.Warmed39 U.vm ∧ U.heap = h0) (fun _ _ _ _ _ => True) (fun _ U o U' => ∃ v L, o = .returned v ∧ QP Z (.int r) h0 v U'.heap L ∧ FrameEnd U o U' L ({ frames := 0, cells := 0, slots := 0, locals := 0 } : Room).cells ({ frames := 0, cells := 0, slots := 0, locals := 0 } : Room).slots) := by
  refine MetFree.of_bodySF (plainFor_of_name pn_3) hisR ?_
  intro p e s m args below meth c s₁ Bd hml0 hP hK
  obtain ⟨rfl, hZ, hh⟩ := hP
  have CX0 := CX
  obtain ⟨hw, S_ih, S_ic, B_ic, -⟩ := CX0
  have hx := Bd.exec
  have hby := Bd.bytes
  have hml : c.maxLocals = 4 := hml0
  have hown : s.vm.findClass "com/example/entigate/entigate/sample/PlaylistTrackIdEqualsPinLaw" = some m.cls := findClass_of_methodNamed Bd.named
  have hnm := (name_of_methodNamed Bd.named Bd.method).1
  have hlk : meth.locks = false := BodyLoose.notSynchronized Bd
  have X0 : Stand p l e ({ frames := 0, cells := 0, slots := 0, locals := 0 } : Room) s m #[(.int p1), (.int p2), (.int p3), (.int p4)] below meth c s₁ [] 0 0 := Stand.of_body Bd
  have e0 : s₁.heap = h0 := by rw [← hh, Bd.state]; rfl
  have N := Fr.nil Z.heap.size
  show own_Done p.tables e below (own_R (QP Z (.int r) h0) s 0 0) s₁ (entryFrame m #[(.int p1), (.int p2), (.int p3), (.int p4)] 4)
  refine own_st (T' := s₁) (F' := (mkF m 0 #[.val (.int p1), .val (.int p2), .val (.int p3), .val (.int p4)] [])) (fun t k => castTop (by first | rfl | (simp [entryFrame, mkF, argsToLocals, Value.category]; done)) k) ?_
  refine own_st (T' := s₁) (F' := (mkF m 1 #[.val (.int p1), .val (.int p2), .val (.int p3), .val (.int p4)] [(.int p1)])) (fun t k => XS.iloadN X0.here hx rfl (hb hby d6_0) rfl k) ?_
  by_cases hc1_1 : p1 = (0 : Int32)
  · refine own_st (T' := s₁) (F' := (mkF m 4 #[.val (.int p1), .val (.int p2), .val (.int p3), .val (.int p4)] [])) (fun t k => XS.ifNo X0.here hx rfl (hb hby d6_1) rfl ((if0 _ _).trans (teq hc1_1).2) k) ?_
    refine own_st (T' := s₁) (F' := (mkF m 5 #[.val (.int p1), .val (.int p2), .val (.int p3), .val (.int p4)] [(.int p3)])) (fun t k => XS.iloadN X0.here hx rfl (hb hby d6_4) rfl k) ?_
    by_cases hc5_2 : p3 = (0 : Int32)
    · refine own_st (T' := s₁) (F' := (mkF m 22 #[.val (.int p1), .val (.int p2), .val (.int p3), .val (.int p4)] [])) (fun t k => XS.ifYes X0.here hx rfl (pc0 := 5) (pc' := 22) rfl (hb hby d6_5) rfl ((if0 _ _).trans (teq hc5_2).1) (by decide) (by decide) k) ?_
      refine own_st (T' := s₁) (F' := (mkF m 23 #[.val (.int p1), .val (.int p2), .val (.int p3), .val (.int p4)] [(.int p2)])) (fun t k => XS.iloadN X0.here hx rfl (hb hby d6_22) rfl k) ?_
      refine own_st (T' := s₁) (F' := (mkF m 24 #[.val (.int p1), .val (.int p2), .val (.int p3), .val (.int p4)] [(.int p4), (.int p2)])) (fun t k => XS.iloadN X0.here hx rfl (hb hby d6_23) rfl k) ?_
      by_cases hc24_3 : p2 = p4
      · refine own_st (T' := s₁) (F' := (mkF m 27 #[.val (.int p1), .val (.int p2), .val (.int p3), .val (.int p4)] [])) (fun t k => XS.icmpNo X0.here hx rfl (hb hby d6_24) rfl (teq hc24_3).2 k) ?_
        refine own_st (T' := s₁) (F' := (mkF m 28 #[.val (.int p1), .val (.int p2), .val (.int p3), .val (.int p4)] [(.int (1 : Int32))])) (fun t k => XS.iconst X0.here hx rfl (hb hby d6_27) k) ?_
        refine own_st (T' := s₁) (F' := (mkF m 32 #[.val (.int p1), .val (.int p2), .val (.int p3), .val (.int p4)] [(.int (1 : Int32))])) (fun t k => XS.goto X0.here hx rfl (pc0 := 28) (pc' := 32) rfl (hb hby d6_28) (by decide) (by decide) k) ?_
        exact own_retN X0 hx (t := .boolean) Bd.returns (by simp) (by decide) (hb hby d6_32) hlk (by show QP Z (.int r) h0 _ s₁.heap _; rw [e0]; exact ⟨by rw [hr]; simp [own_eqv, hc1_1, hc5_2, hc24_3], N, rfl⟩) (by decide) (by decide)
      · refine own_st (T' := s₁) (F' := (mkF m 31 #[.val (.int p1), .val (.int p2), .val (.int p3), .val (.int p4)] [])) (fun t k => XS.icmpYes X0.here hx rfl (pc0 := 24) (pc' := 31) rfl (hb hby d6_24) rfl (feq hc24_3).2 (by decide) (by decide) k) ?_
        refine own_st (T' := s₁) (F' := (mkF m 32 #[.val (.int p1), .val (.int p2), .val (.int p3), .val (.int p4)] [(.int (0 : Int32))])) (fun t k => XS.iconst X0.here hx rfl (hb hby d6_31) k) ?_
        exact own_retN X0 hx (t := .boolean) Bd.returns (by simp) (by decide) (hb hby d6_32) hlk (by show QP Z (.int r) h0 _ s₁.heap _; rw [e0]; exact ⟨by rw [hr]; simp [own_eqv, hc1_1, hc5_2, hc24_3], N, rfl⟩) (by decide) (by decide)
    · refine own_st (T' := s₁) (F' := (mkF m 8 #[.val (.int p1), .val (.int p2), .val (.int p3), .val (.int p4)] [])) (fun t k => XS.ifNo X0.here hx rfl (hb hby d6_5) rfl ((if0 _ _).trans (feq hc5_2).1) k) ?_
      refine own_st (T' := s₁) (F' := (mkF m 9 #[.val (.int p1), .val (.int p2), .val (.int p3), .val (.int p4)] [(.int p1)])) (fun t k => XS.iloadN X0.here hx rfl (hb hby d6_8) rfl k) ?_
      refine own_st (T' := s₁) (F' := (mkF m 20 #[.val (.int p1), .val (.int p2), .val (.int p3), .val (.int p4)] [])) (fun t k => XS.ifYes X0.here hx rfl (pc0 := 9) (pc' := 20) rfl (hb hby d6_9) rfl ((if0 _ _).trans (teq hc1_1).1) (by decide) (by decide) k) ?_
      refine own_st (T' := s₁) (F' := (mkF m 21 #[.val (.int p1), .val (.int p2), .val (.int p3), .val (.int p4)] [(.int (0 : Int32))])) (fun t k => XS.iconst X0.here hx rfl (hb hby d6_20) k) ?_
      exact own_retN X0 hx (t := .boolean) Bd.returns (by simp) (by decide) (hb hby d6_21) hlk (by show QP Z (.int r) h0 _ s₁.heap _; rw [e0]; exact ⟨by rw [hr]; simp [own_eqv, hc1_1, hc5_2], N, rfl⟩) (by decide) (by decide)
  · refine own_st (T' := s₁) (F' := (mkF m 8 #[.val (.int p1), .val (.int p2), .val (.int p3), .val (.int p4)] [])) (fun t k => XS.ifYes X0.here hx rfl (pc0 := 1) (pc' := 8) rfl (hb hby d6_1) rfl ((if0 _ _).trans (feq hc1_1).2) (by decide) (by decide) k) ?_
    refine own_st (T' := s₁) (F' := (mkF m 9 #[.val (.int p1), .val (.int p2), .val (.int p3), .val (.int p4)] [(.int p1)])) (fun t k => XS.iloadN X0.here hx rfl (hb hby d6_8) rfl k) ?_
    refine own_st (T' := s₁) (F' := (mkF m 12 #[.val (.int p1), .val (.int p2), .val (.int p3), .val (.int p4)] [])) (fun t k => XS.ifNo X0.here hx rfl (hb hby d6_9) rfl ((if0 _ _).trans (feq hc1_1).1) k) ?_
    refine own_st (T' := s₁) (F' := (mkF m 13 #[.val (.int p1), .val (.int p2), .val (.int p3), .val (.int p4)] [(.int p3)])) (fun t k => XS.iloadN X0.here hx rfl (hb hby d6_12) rfl k) ?_
    by_cases hc13_4 : p3 = (0 : Int32)
    · refine own_st (T' := s₁) (F' := (mkF m 20 #[.val (.int p1), .val (.int p2), .val (.int p3), .val (.int p4)] [])) (fun t k => XS.ifYes X0.here hx rfl (pc0 := 13) (pc' := 20) rfl (hb hby d6_13) rfl ((if0 _ _).trans (teq hc13_4).1) (by decide) (by decide) k) ?_
      refine own_st (T' := s₁) (F' := (mkF m 21 #[.val (.int p1), .val (.int p2), .val (.int p3), .val (.int p4)] [(.int (0 : Int32))])) (fun t k => XS.iconst X0.here hx rfl (hb hby d6_20) k) ?_
      exact own_retN X0 hx (t := .boolean) Bd.returns (by simp) (by decide) (hb hby d6_21) hlk (by show QP Z (.int r) h0 _ s₁.heap _; rw [e0]; exact ⟨by rw [hr]; simp [own_eqv, hc1_1, hc13_4], N, rfl⟩) (by decide) (by decide)
    · refine own_st (T' := s₁) (F' := (mkF m 16 #[.val (.int p1), .val (.int p2), .val (.int p3), .val (.int p4)] [])) (fun t k => XS.ifNo X0.here hx rfl (hb hby d6_13) rfl ((if0 _ _).trans (feq hc13_4).1) k) ?_
      refine own_st (T' := s₁) (F' := (mkF m 17 #[.val (.int p1), .val (.int p2), .val (.int p3), .val (.int p4)] [(.int (1 : Int32))])) (fun t k => XS.iconst X0.here hx rfl (hb hby d6_16) k) ?_
      refine own_st (T' := s₁) (F' := (mkF m 21 #[.val (.int p1), .val (.int p2), .val (.int p3), .val (.int p4)] [(.int (1 : Int32))])) (fun t k => XS.goto X0.here hx rfl (pc0 := 17) (pc' := 21) rfl (hb hby d6_17) (by decide) (by decide) k) ?_
      exact own_retN X0 hx (t := .boolean) Bd.returns (by simp) (by decide) (hb hby d6_21) hlk (by show QP Z (.int r) h0 _ s₁.heap _; rw [e0]; exact ⟨by rw [hr]; simp [own_eqv, hc1_1, hc13_4], N, rfl⟩) (by decide) (by decide)
theorem d10_0 : decode jdk_33_method_27_code 0 = .ok (.aload_n 0, 1) := by decide +kernel
theorem d10_1 : decode jdk_33_method_27_code 1 = .ok (.getfield 205, 3) := by decide +kernel
theorem d10_4 : decode jdk_33_method_27_code 4 = .ok (.ireturn, 1) := by decide +kernel
set_option maxRecDepth 65536 in
set_option maxHeartbeats 40000000 in
theorem rm10 (l : Launch) (Z : State) (a0 : Array Value) {w_ic : Addr} {cl_ic : Cell} (CX : Ctx Z a0 w_ic cl_ic) (ws : List Jvm.Cond) (a1 : Addr) (r : Int32) (h0 : Heap) (O : Ext Z.heap h0) (F1 : Fld Z h0 a1 "java/lang/Integer" "value" "I" (.int r)) :
    MetFree l (⟨"java/lang/Integer", "intValue", "()I"⟩ : MethodName) (head1 (Jvm.Cond.code (⟨"java/lang/Integer", "intValue", "()I"⟩ : MethodName) jdk_33_method_27_code 1 (some .int) :: ws) ({ frames := 0, cells := 0, slots := 0, locals := 0 } : Room)) (fun a U => a = #[(.ref a1)] ∧ Z.Warmed39 U.vm ∧ U.heap = h0) (fun _ _ _ _ _ => True) (fun _ U o U' => ∃ v L, o = .returned v ∧ QP Z (.int r) h0 v U'.heap L ∧ FrameEnd U o U' L ({ frames := 0, cells := 0, slots := 0, locals := 0 } : Room).cells ({ frames := 0, cells := 0, slots := 0, locals := 0 } : Room).slots) := by
  refine MetFree.of_bodySF (plainFor_of_name pn_1) hisR ?_
  intro p e s m args below meth c s₁ Bd hml0 hP hK
  obtain ⟨rfl, hZ, hh⟩ := hP
  have CX0 := CX
  obtain ⟨hw, S_ih, S_ic, B_ic, -⟩ := CX0
  have hx := Bd.exec
  have hby := Bd.bytes
  have hml : c.maxLocals = 1 := hml0
  have hown : s.vm.findClass "java/lang/Integer" = some m.cls := findClass_of_methodNamed Bd.named
  have hnm := (name_of_methodNamed Bd.named Bd.method).1
  have hlk : meth.locks = false := BodyLoose.notSynchronized Bd
  have X0 : Stand p l e ({ frames := 0, cells := 0, slots := 0, locals := 0 } : Room) s m #[(.ref a1)] below meth c s₁ [] 0 0 := Stand.of_body Bd
  have e0 : s₁.heap = h0 := by rw [← hh, Bd.state]; rfl
  have N := Fr.nil Z.heap.size
  show own_Done p.tables e below (own_R (QP Z (.int r) h0) s 0 0) s₁ (entryFrame m #[(.ref a1)] 1)
  refine own_st (T' := s₁) (F' := (mkF m 0 #[.val (.ref a1)] [])) (fun t k => castTop (by first | rfl | (simp [entryFrame, mkF, argsToLocals, Value.category]; done)) k) ?_
  refine own_st (T' := s₁) (F' := (mkF m 1 #[.val (.ref a1)] [(.ref a1)])) (fun t k => XS.aloadN X0.here hx rfl (hb hby d10_0) rfl rfl k) ?_
  obtain ⟨T1, X1, e1, st1⟩ := getF X0 hx hZ hown (host := "") (Or.inl (hw _ (List.mem_of_getElem? (i := 53) rfl))) Via.refl e0 F1 (g := (mkF m 1 #[.val (.ref a1)] [(.ref a1)])) rfl rfl (hb hby d10_1)
  refine own_st (T' := T1) (F' := (mkF m 4 #[.val (.ref a1)] [(.int r)])) st1 ?_
  exact own_retI X1 hx Bd.returns (hb hby d10_4) hlk (by show QP Z (.int r) h0 _ T1.heap _; rw [e1]; exact ⟨rfl, N, rfl⟩) (by decide) (by decide)
theorem d9_0 : decode jdk_33_method_34_code 0 = .ok (.aload_n 1, 1) := by decide +kernel
theorem d9_1 : decode jdk_33_method_34_code 1 = .ok (.instanceof 1, 3) := by decide +kernel
theorem d9_4 : decode jdk_33_method_34_code 4 = .ok (.ifCond .eq 23, 3) := by decide +kernel
theorem d9_7 : decode jdk_33_method_34_code 7 = .ok (.aload_n 0, 1) := by decide +kernel
theorem d9_8 : decode jdk_33_method_34_code 8 = .ok (.getfield 205, 3) := by decide +kernel
theorem d9_11 : decode jdk_33_method_34_code 11 = .ok (.aload_n 1, 1) := by decide +kernel
theorem d9_12 : decode jdk_33_method_34_code 12 = .ok (.checkcast 1, 3) := by decide +kernel
theorem d9_15 : decode jdk_33_method_34_code 15 = .ok (.invokevirtual 211, 3) := by decide +kernel
theorem d9_18 : decode jdk_33_method_34_code 18 = .ok (.if_icmp .ne 7, 3) := by decide +kernel
theorem d9_21 : decode jdk_33_method_34_code 21 = .ok (.iconst 1, 1) := by decide +kernel
theorem d9_22 : decode jdk_33_method_34_code 22 = .ok (.goto 4, 3) := by decide +kernel
theorem d9_25 : decode jdk_33_method_34_code 25 = .ok (.iconst 0, 1) := by decide +kernel
theorem d9_26 : decode jdk_33_method_34_code 26 = .ok (.ireturn, 1) := by decide +kernel
theorem d9_27 : decode jdk_33_method_34_code 27 = .ok (.iconst 0, 1) := by decide +kernel
theorem d9_28 : decode jdk_33_method_34_code 28 = .ok (.ireturn, 1) := by decide +kernel
set_option maxRecDepth 65536 in
set_option maxHeartbeats 40000000 in
theorem rmIQ_N (l : Launch) (Z : State) (a0 : Array Value) {w_ic : Addr} {cl_ic : Cell} (CX : Ctx Z a0 w_ic cl_ic) (ws : List Jvm.Cond) (a1 : Addr) (h0 : Heap) (O : Ext Z.heap h0)  :
    MetFree l (⟨"java/lang/Integer", "equals", "(Ljava/lang/Object;)Z"⟩ : MethodName) (head1 (Jvm.Cond.code (⟨"java/lang/Integer", "equals", "(Ljava/lang/Object;)Z"⟩ : MethodName) jdk_33_method_34_code 2 (some .boolean) :: ws) ({ frames := 1, cells := 0, slots := 0, locals := 13 } : Room)) (fun a U => a = #[(.ref a1), .null] ∧ Z.Warmed39 U.vm ∧ U.heap = h0) (fun _ _ _ _ _ => True) (fun _ U o U' => ∃ v L, o = .returned v ∧ QP Z (.int (0 : Int32)) h0 v U'.heap L ∧ FrameEnd U o U' L ({ frames := 1, cells := 0, slots := 0, locals := 13 } : Room).cells ({ frames := 1, cells := 0, slots := 0, locals := 13 } : Room).slots) := by
  refine MetFree.of_bodySF (plainFor_of_name pn_1) hisR ?_
  intro p e s m args below meth c s₁ Bd hml0 hP hK
  obtain ⟨rfl, hZ, hh⟩ := hP
  have CX0 := CX
  obtain ⟨hw, S_ih, S_ic, B_ic, -⟩ := CX0
  have hx := Bd.exec
  have hby := Bd.bytes
  have hml : c.maxLocals = 2 := hml0
  have hown : s.vm.findClass "java/lang/Integer" = some m.cls := findClass_of_methodNamed Bd.named
  have hnm := (name_of_methodNamed Bd.named Bd.method).1
  have hlk : meth.locks = false := BodyLoose.notSynchronized Bd
  have X0 : Stand p l e ({ frames := 1, cells := 0, slots := 0, locals := 13 } : Room) s m #[(.ref a1), .null] below meth c s₁ [] 0 0 := Stand.of_body Bd
  have e0 : s₁.heap = h0 := by rw [← hh, Bd.state]; rfl
  have N := Fr.nil Z.heap.size
  show own_Done p.tables e below (own_R (QP Z (.int (0 : Int32)) h0) s 0 0) s₁ (entryFrame m #[(.ref a1), .null] 2)
  refine own_st (T' := s₁) (F' := (mkF m 0 #[.val (.ref a1), .val .null] [])) (fun t k => castTop (by first | rfl | (simp [entryFrame, mkF, argsToLocals, Value.category]; done)) k) ?_
  refine own_st (T' := s₁) (F' := (mkF m 1 #[.val (.ref a1), .val .null] [.null])) (fun t k => XS.aloadN X0.here hx rfl (hb hby d9_0) rfl rfl k) ?_
  refine own_st (T' := s₁) (F' := (mkF m 4 #[.val (.ref a1), .val .null] [(.int (0 : Int32))])) (fun t k => X0.instanceofNull hx (g := (mkF m 1 #[.val (.ref a1), .val .null] [.null])) rfl rfl (hb hby d9_1) _ k) ?_
  refine own_st (T' := s₁) (F' := (mkF m 27 #[.val (.ref a1), .val .null] [])) (fun t k => XS.ifYes X0.here hx rfl (pc0 := 4) (pc' := 27) rfl (hb hby d9_4) rfl ((if0 _ _).trans (teq rfl).1) (by decide) (by decide) k) ?_
  refine own_st (T' := s₁) (F' := (mkF m 28 #[.val (.ref a1), .val .null] [(.int (0 : Int32))])) (fun t k => XS.iconst X0.here hx rfl (hb hby d9_27) k) ?_
  exact own_retN X0 hx (t := .boolean) Bd.returns (by simp) (by decide) (hb hby d9_28) hlk (by show QP Z (.int (0 : Int32)) h0 _ s₁.heap _; rw [e0]; exact ⟨rfl, N, rfl⟩) (by decide) (by decide)
theorem pd_2 : parseMethodDescriptor "()I" = some ⟨[], some .int⟩ := by decide +kernel
set_option maxRecDepth 65536 in
set_option maxHeartbeats 40000000 in
theorem rmIQ_R (l : Launch) (Z : State) (a0 : Array Value) {w_ic : Addr} {cl_ic : Cell} (CX : Ctx Z a0 w_ic cl_ic) (ws : List Jvm.Cond) (a1 a2 : Addr) (q1 q2 r : Int32) (h0 : Heap) (O : Ext Z.heap h0) (E2 : Exa Z h0 a2 "java/lang/Integer") (F1 : Fld Z h0 a1 "java/lang/Integer" "value" "I" (.int q1)) (F2 : Fld Z h0 a2 "java/lang/Integer" "value" "I" (.int q2)) (hr : r = if q1 = q2 then 1 else 0) :
    MetFree l (⟨"java/lang/Integer", "equals", "(Ljava/lang/Object;)Z"⟩ : MethodName) (head1 (Jvm.Cond.code (⟨"java/lang/Integer", "equals", "(Ljava/lang/Object;)Z"⟩ : MethodName) jdk_33_method_34_code 2 (some .boolean) :: ws) ({ frames := 1, cells := 0, slots := 0, locals := 13 } : Room)) (fun a U => a = #[(.ref a1), (.ref a2)] ∧ Z.Warmed39 U.vm ∧ U.heap = h0) (fun _ _ _ _ _ => True) (fun _ U o U' => ∃ v L, o = .returned v ∧ QP Z (.int r) h0 v U'.heap L ∧ FrameEnd U o U' L ({ frames := 1, cells := 0, slots := 0, locals := 13 } : Room).cells ({ frames := 1, cells := 0, slots := 0, locals := 13 } : Room).slots) := by
  refine MetFree.of_bodySF (plainFor_of_name pn_1) hisR ?_
  intro p e s m args below meth c s₁ Bd hml0 hP hK
  obtain ⟨rfl, hZ, hh⟩ := hP
  have CX0 := CX
  obtain ⟨hw, S_ih, S_ic, B_ic, -⟩ := CX0
  have hx := Bd.exec
  have hby := Bd.bytes
  have hml : c.maxLocals = 2 := hml0
  have hown : s.vm.findClass "java/lang/Integer" = some m.cls := findClass_of_methodNamed Bd.named
  have hnm := (name_of_methodNamed Bd.named Bd.method).1
  have hlk : meth.locks = false := BodyLoose.notSynchronized Bd
  have X0 : Stand p l e ({ frames := 1, cells := 0, slots := 0, locals := 13 } : Room) s m #[(.ref a1), (.ref a2)] below meth c s₁ [] 0 0 := Stand.of_body Bd
  have e0 : s₁.heap = h0 := by rw [← hh, Bd.state]; rfl
  have N := Fr.nil Z.heap.size
  show own_Done p.tables e below (own_R (QP Z (.int r) h0) s 0 0) s₁ (entryFrame m #[(.ref a1), (.ref a2)] 2)
  refine own_st (T' := s₁) (F' := (mkF m 0 #[.val (.ref a1), .val (.ref a2)] [])) (fun t k => castTop (by first | rfl | (simp [entryFrame, mkF, argsToLocals, Value.category]; done)) k) ?_
  refine own_st (T' := s₁) (F' := (mkF m 1 #[.val (.ref a1), .val (.ref a2)] [(.ref a2)])) (fun t k => XS.aloadN X0.here hx rfl (hb hby d9_0) rfl rfl k) ?_
  obtain ⟨T1, X1, e1, st1⟩ := instY X0 hx hZ hown (hw _ (List.mem_of_getElem? (i := 51) rfl)) e0 (Ins.self E2) (g := (mkF m 1 #[.val (.ref a1), .val (.ref a2)] [(.ref a2)])) rfl rfl (hb hby d9_1)
  refine own_st (T' := T1) (F' := (mkF m 4 #[.val (.ref a1), .val (.ref a2)] [(.int (1 : Int32))])) st1 ?_
  refine own_st (T' := T1) (F' := (mkF m 7 #[.val (.ref a1), .val (.ref a2)] [])) (fun t k => XS.ifNo X1.here hx rfl (hb hby d9_4) rfl ((if0 _ _).trans (feq (by decide : ¬ ((1 : Int32) = (0 : Int32)))).1) k) ?_
  refine own_st (T' := T1) (F' := (mkF m 8 #[.val (.ref a1), .val (.ref a2)] [(.ref a1)])) (fun t k => XS.aloadN X1.here hx rfl (hb hby d9_7) rfl rfl k) ?_
  obtain ⟨T2, X2, e2, st2⟩ := getF X1 hx hZ hown (host := "") (Or.inl (hw _ (List.mem_of_getElem? (i := 53) rfl))) Via.refl e1 F1 (g := (mkF m 8 #[.val (.ref a1), .val (.ref a2)] [(.ref a1)])) rfl rfl (hb hby d9_8)
  refine own_st (T' := T2) (F' := (mkF m 11 #[.val (.ref a1), .val (.ref a2)] [(.int q1)])) st2 ?_
  refine own_st (T' := T2) (F' := (mkF m 12 #[.val (.ref a1), .val (.ref a2)] [(.ref a2), (.int q1)])) (fun t k => XS.aloadN X2.here hx rfl (hb hby d9_11) rfl rfl k) ?_
  obtain ⟨T3, X3, e3, st3⟩ := castY X2 hx hZ hown (hw _ (List.mem_of_getElem? (i := 51) rfl)) e2 (Ins.self E2) (g := (mkF m 12 #[.val (.ref a1), .val (.ref a2)] [(.ref a2), (.int q1)])) rfl rfl (hb hby d9_12)
  refine own_st (T' := T3) (F' := (mkF m 15 #[.val (.ref a1), .val (.ref a2)] [(.ref a2), (.int q1)])) st3 ?_
  obtain ⟨cq4, kq4, q4a, q4b, q4c⟩ := isOf hZ e3 E2
  obtain ⟨v4, _, ⟨T4, L4, k4, n4⟩, -, X4, ⟨Lc4, hQ4, l4, y4, z4⟩, st4⟩ := X3.virtualBack hx (y := (⟨"java/lang/Integer", "intValue", "()I"⟩ : MethodName)) (z := (⟨"java/lang/Integer", "intValue", "()I"⟩ : MethodName)) hown (mvT hZ (hw _ (List.mem_of_getElem? (i := 55) rfl))) (mvT hZ (hw _ (List.mem_of_getElem? (i := 56) rfl))) (notFace_of_selects (args := #[]) (mvT hZ (hw _ (List.mem_of_getElem? (i := 58) rfl)))) (mvT hZ (hw _ (List.mem_of_getElem? (i := 58) rfl))) (mvT hZ (hw _ (List.mem_of_getElem? (i := 57) rfl))) (by decide) (backOf (W := 1) (rm10 l Z a0 CX [] a2 q2 h0 O F2) hZ (hw _ (List.mem_of_getElem? (i := 59) rfl)) (hw _ (List.mem_of_getElem? (i := 11) rfl)) (by decide) (by decide)) q4a q4c (g := (mkF m 15 #[.val (.ref a1), .val (.ref a2)] [(.ref a2), (.int q1)])) rfl (by rw [hml]; rfl) (Steps.refl _) (argsL := []) (rest := [(.int q1)]) (lenOf pd_2 rfl) rfl (by show 2 * 0 + _ ≤ _; exact Nat.le_of_eq rfl) (hb hby d9_15) (fun _ _ => ⟨rfl, e3, (by decide : 0 + 0 ≤ _), (by decide : 0 + 0 ≤ _)⟩)
  dsimp only [Pt.U, Pt.locs, Pt.cells, Pt.slots] at X4 l4 y4 z4 st4 hQ4
  subst l4 y4 z4
  obtain ⟨rfl, N4q, e4⟩ := hQ4
  have N := Fr.app N N4q
  refine own_tr (T' := T4) (F' := (mkF m 18 #[.val (.ref a1), .val (.ref a2)] [(.int q2), (.int q1)])) st4 ?_
  by_cases hc18_5 : q1 = q2
  · refine own_st (T' := T4) (F' := (mkF m 21 #[.val (.ref a1), .val (.ref a2)] [])) (fun t k => XS.icmpNo X4.here hx rfl (hb hby d9_18) rfl (teq hc18_5).2 k) ?_
    refine own_st (T' := T4) (F' := (mkF m 22 #[.val (.ref a1), .val (.ref a2)] [(.int (1 : Int32))])) (fun t k => XS.iconst X4.here hx rfl (hb hby d9_21) k) ?_
    refine own_st (T' := T4) (F' := (mkF m 26 #[.val (.ref a1), .val (.ref a2)] [(.int (1 : Int32))])) (fun t k => XS.goto X4.here hx rfl (pc0 := 22) (pc' := 26) rfl (hb hby d9_22) (by decide) (by decide) k) ?_
    exact own_retN X4 hx (t := .boolean) Bd.returns (by simp) (by decide) (hb hby d9_26) hlk (by show QP Z (.int r) h0 _ T4.heap _; rw [e4]; exact ⟨by simp [hr, hc18_5], N, rfl⟩) (by decide) (by decide)
  · refine own_st (T' := T4) (F' := (mkF m 25 #[.val (.ref a1), .val (.ref a2)] [])) (fun t k => XS.icmpYes X4.here hx rfl (pc0 := 18) (pc' := 25) rfl (hb hby d9_18) rfl (feq hc18_5).2 (by decide) (by decide) k) ?_
    refine own_st (T' := T4) (F' := (mkF m 26 #[.val (.ref a1), .val (.ref a2)] [(.int (0 : Int32))])) (fun t k => XS.iconst X4.here hx rfl (hb hby d9_25) k) ?_
    exact own_retN X4 hx (t := .boolean) Bd.returns (by simp) (by decide) (hb hby d9_26) hlk (by show QP Z (.int r) h0 _ T4.heap _; rw [e4]; exact ⟨by simp [hr, hc18_5], N, rfl⟩) (by decide) (by decide)
theorem d8_0 : decode jdk_31_method_2_code 0 = .ok (.aload_n 0, 1) := by decide +kernel
theorem d8_1 : decode jdk_31_method_2_code 1 = .ok (.aload_n 1, 1) := by decide +kernel
theorem d8_2 : decode jdk_31_method_2_code 2 = .ok (.if_acmp .eq 15, 3) := by decide +kernel
theorem d8_5 : decode jdk_31_method_2_code 5 = .ok (.aload_n 0, 1) := by decide +kernel
theorem d8_6 : decode jdk_31_method_2_code 6 = .ok (.ifnull 15, 3) := by decide +kernel
theorem d8_9 : decode jdk_31_method_2_code 9 = .ok (.aload_n 0, 1) := by decide +kernel
theorem d8_10 : decode jdk_31_method_2_code 10 = .ok (.aload_n 1, 1) := by decide +kernel
theorem d8_11 : decode jdk_31_method_2_code 11 = .ok (.invokevirtual 14, 3) := by decide +kernel
theorem d8_14 : decode jdk_31_method_2_code 14 = .ok (.ifCond .eq 7, 3) := by decide +kernel
theorem d8_17 : decode jdk_31_method_2_code 17 = .ok (.iconst 1, 1) := by decide +kernel
theorem d8_18 : decode jdk_31_method_2_code 18 = .ok (.goto 4, 3) := by decide +kernel
theorem d8_21 : decode jdk_31_method_2_code 21 = .ok (.iconst 0, 1) := by decide +kernel
theorem d8_22 : decode jdk_31_method_2_code 22 = .ok (.ireturn, 1) := by decide +kernel
theorem pn_4 : plainName "java/util/Objects" = true := by first | (simp [plainName, overriddenIn]; done) | decide +kernel
set_option maxRecDepth 65536 in
set_option maxHeartbeats 40000000 in
theorem rmO_NN (l : Launch) (Z : State) (a0 : Array Value) {w_ic : Addr} {cl_ic : Cell} (CX : Ctx Z a0 w_ic cl_ic) (ws : List Jvm.Cond)  (h0 : Heap) (O : Ext Z.heap h0)  :
    MetFree l (⟨"java/util/Objects", "equals", "(Ljava/lang/Object;Ljava/lang/Object;)Z"⟩ : MethodName) (head1 (Jvm.Cond.code (⟨"java/util/Objects", "equals", "(Ljava/lang/Object;Ljava/lang/Object;)Z"⟩ : MethodName) jdk_31_method_2_code 2 (some .boolean) :: ws) ({ frames := 2, cells := 0, slots := 0, locals := 26 } : Room)) (fun a U => a = #[.null, .null] ∧ Z.Warmed39 U.vm ∧ U.heap = h0) (fun _ _ _ _ _ => True) (fun _ U o U' => ∃ v L, o = .returned v ∧ QP Z (.int (1 : Int32)) h0 v U'.heap L ∧ FrameEnd U o U' L ({ frames := 2, cells := 0, slots := 0, locals := 26 } : Room).cells ({ frames := 2, cells := 0, slots := 0, locals := 26 } : Room).slots) := by
  refine MetFree.of_bodySF (plainFor_of_name pn_4) hisR ?_
  intro p e s m args below meth c s₁ Bd hml0 hP hK
  obtain ⟨rfl, hZ, hh⟩ := hP
  have CX0 := CX
  obtain ⟨hw, S_ih, S_ic, B_ic, -⟩ := CX0
  have hx := Bd.exec
  have hby := Bd.bytes
  have hml : c.maxLocals = 2 := hml0
  have hown : s.vm.findClass "java/util/Objects" = some m.cls := findClass_of_methodNamed Bd.named
  have hnm := (name_of_methodNamed Bd.named Bd.method).1
  have hlk : meth.locks = false := BodyLoose.notSynchronized Bd
  have X0 : Stand p l e ({ frames := 2, cells := 0, slots := 0, locals := 26 } : Room) s m #[.null, .null] below meth c s₁ [] 0 0 := Stand.of_body Bd
  have e0 : s₁.heap = h0 := by rw [← hh, Bd.state]; rfl
  have N := Fr.nil Z.heap.size
  show own_Done p.tables e below (own_R (QP Z (.int (1 : Int32)) h0) s 0 0) s₁ (entryFrame m #[.null, .null] 2)
  refine own_st (T' := s₁) (F' := (mkF m 0 #[.val .null, .val .null] [])) (fun t k => castTop (by first | rfl | (simp [entryFrame, mkF, argsToLocals, Value.category]; done)) k) ?_
  refine own_st (T' := s₁) (F' := (mkF m 1 #[.val .null, .val .null] [.null])) (fun t k => XS.aloadN X0.here hx rfl (hb hby d8_0) rfl rfl k) ?_
  refine own_st (T' := s₁) (F' := (mkF m 2 #[.val .null, .val .null] [.null, .null])) (fun t k => XS.aloadN X0.here hx rfl (hb hby d8_1) rfl rfl k) ?_
  refine own_st (T' := s₁) (F' := (mkF m 17 #[.val .null, .val .null] [])) (fun t k => Jvm.RoadKit.acmp (g := (mkF m 2 #[.val .null, .val .null] [.null, .null])) X0 hx rfl rfl rfl (pc0 := 2) (pc' := 17) (same := true) rfl (hb hby d8_2) rfl (decide_eq_true rfl) (by decide) (by decide) k) ?_
  refine own_st (T' := s₁) (F' := (mkF m 18 #[.val .null, .val .null] [(.int (1 : Int32))])) (fun t k => XS.iconst X0.here hx rfl (hb hby d8_17) k) ?_
  refine own_st (T' := s₁) (F' := (mkF m 22 #[.val .null, .val .null] [(.int (1 : Int32))])) (fun t k => XS.goto X0.here hx rfl (pc0 := 18) (pc' := 22) rfl (hb hby d8_18) (by decide) (by decide) k) ?_
  exact own_retN X0 hx (t := .boolean) Bd.returns (by simp) (by decide) (hb hby d8_22) hlk (by show QP Z (.int (1 : Int32)) h0 _ s₁.heap _; rw [e0]; exact ⟨rfl, N, rfl⟩) (by decide) (by decide)
set_option maxRecDepth 65536 in
set_option maxHeartbeats 40000000 in
theorem rmO_NR (l : Launch) (Z : State) (a0 : Array Value) {w_ic : Addr} {cl_ic : Cell} (CX : Ctx Z a0 w_ic cl_ic) (ws : List Jvm.Cond) (a2 : Addr) (h0 : Heap) (O : Ext Z.heap h0)  :
    MetFree l (⟨"java/util/Objects", "equals", "(Ljava/lang/Object;Ljava/lang/Object;)Z"⟩ : MethodName) (head1 (Jvm.Cond.code (⟨"java/util/Objects", "equals", "(Ljava/lang/Object;Ljava/lang/Object;)Z"⟩ : MethodName) jdk_31_method_2_code 2 (some .boolean) :: ws) ({ frames := 2, cells := 0, slots := 0, locals := 26 } : Room)) (fun a U => a = #[.null, (.ref a2)] ∧ Z.Warmed39 U.vm ∧ U.heap = h0) (fun _ _ _ _ _ => True) (fun _ U o U' => ∃ v L, o = .returned v ∧ QP Z (.int (0 : Int32)) h0 v U'.heap L ∧ FrameEnd U o U' L ({ frames := 2, cells := 0, slots := 0, locals := 26 } : Room).cells ({ frames := 2, cells := 0, slots := 0, locals := 26 } : Room).slots) := by
  refine MetFree.of_bodySF (plainFor_of_name pn_4) hisR ?_
  intro p e s m args below meth c s₁ Bd hml0 hP hK
  obtain ⟨rfl, hZ, hh⟩ := hP
  have CX0 := CX
  obtain ⟨hw, S_ih, S_ic, B_ic, -⟩ := CX0
  have hx := Bd.exec
  have hby := Bd.bytes
  have hml : c.maxLocals = 2 := hml0
  have hown : s.vm.findClass "java/util/Objects" = some m.cls := findClass_of_methodNamed Bd.named
  have hnm := (name_of_methodNamed Bd.named Bd.method).1
  have hlk : meth.locks = false := BodyLoose.notSynchronized Bd
  have X0 : Stand p l e ({ frames := 2, cells := 0, slots := 0, locals := 26 } : Room) s m #[.null, (.ref a2)] below meth c s₁ [] 0 0 := Stand.of_body Bd
  have e0 : s₁.heap = h0 := by rw [← hh, Bd.state]; rfl
  have N := Fr.nil Z.heap.size
  show own_Done p.tables e below (own_R (QP Z (.int (0 : Int32)) h0) s 0 0) s₁ (entryFrame m #[.null, (.ref a2)] 2)
  refine own_st (T' := s₁) (F' := (mkF m 0 #[.val .null, .val (.ref a2)] [])) (fun t k => castTop (by first | rfl | (simp [entryFrame, mkF, argsToLocals, Value.category]; done)) k) ?_
  refine own_st (T' := s₁) (F' := (mkF m 1 #[.val .null, .val (.ref a2)] [.null])) (fun t k => XS.aloadN X0.here hx rfl (hb hby d8_0) rfl rfl k) ?_
  refine own_st (T' := s₁) (F' := (mkF m 2 #[.val .null, .val (.ref a2)] [(.ref a2), .null])) (fun t k => XS.aloadN X0.here hx rfl (hb hby d8_1) rfl rfl k) ?_
  refine own_st (T' := s₁) (F' := (mkF m 5 #[.val .null, .val (.ref a2)] [])) (fun t k => Jvm.RoadKit.acmp (g := (mkF m 2 #[.val .null, .val (.ref a2)] [(.ref a2), .null])) X0 hx rfl rfl rfl (pc0 := 2) (pc' := 5) (same := false) rfl (hb hby d8_2) rfl (decide_eq_false nofun) (by decide) (by decide) k) ?_
  refine own_st (T' := s₁) (F' := (mkF m 6 #[.val .null, .val (.ref a2)] [.null])) (fun t k => XS.aloadN X0.here hx rfl (hb hby d8_5) rfl rfl k) ?_
  refine own_st (T' := s₁) (F' := (mkF m 21 #[.val .null, .val (.ref a2)] [])) (fun t k => XS.ifnullYes X0.here hx rfl (pc0 := 6) (pc' := 21) rfl (hb hby d8_6) rfl (by decide) (by decide) k) ?_
  refine own_st (T' := s₁) (F' := (mkF m 22 #[.val .null, .val (.ref a2)] [(.int (0 : Int32))])) (fun t k => XS.iconst X0.here hx rfl (hb hby d8_21) k) ?_
  exact own_retN X0 hx (t := .boolean) Bd.returns (by simp) (by decide) (hb hby d8_22) hlk (by show QP Z (.int (0 : Int32)) h0 _ s₁.heap _; rw [e0]; exact ⟨rfl, N, rfl⟩) (by decide) (by decide)
theorem pd_3 : parseMethodDescriptor "(Ljava/lang/Object;)Z" = some ⟨[(.object "java/lang/Object")], some .boolean⟩ := by decide +kernel
set_option maxRecDepth 65536 in
set_option maxHeartbeats 40000000 in
theorem rmO_RN (l : Launch) (Z : State) (a0 : Array Value) {w_ic : Addr} {cl_ic : Cell} (CX : Ctx Z a0 w_ic cl_ic) (ws : List Jvm.Cond) (a1 : Addr) (q1 : Int32) (h0 : Heap) (O : Ext Z.heap h0) (E1 : Exa Z h0 a1 "java/lang/Integer") (F1 : Fld Z h0 a1 "java/lang/Integer" "value" "I" (.int q1)) :
    MetFree l (⟨"java/util/Objects", "equals", "(Ljava/lang/Object;Ljava/lang/Object;)Z"⟩ : MethodName) (head1 (Jvm.Cond.code (⟨"java/util/Objects", "equals", "(Ljava/lang/Object;Ljava/lang/Object;)Z"⟩ : MethodName) jdk_31_method_2_code 2 (some .boolean) :: ws) ({ frames := 2, cells := 0, slots := 0, locals := 26 } : Room)) (fun a U => a = #[(.ref a1), .null] ∧ Z.Warmed39 U.vm ∧ U.heap = h0) (fun _ _ _ _ _ => True) (fun _ U o U' => ∃ v L, o = .returned v ∧ QP Z (.int (0 : Int32)) h0 v U'.heap L ∧ FrameEnd U o U' L ({ frames := 2, cells := 0, slots := 0, locals := 26 } : Room).cells ({ frames := 2, cells := 0, slots := 0, locals := 26 } : Room).slots) := by
  refine MetFree.of_bodySF (plainFor_of_name pn_4) hisR ?_
  intro p e s m args below meth c s₁ Bd hml0 hP hK
  obtain ⟨rfl, hZ, hh⟩ := hP
  have CX0 := CX
  obtain ⟨hw, S_ih, S_ic, B_ic, -⟩ := CX0
  have hx := Bd.exec
  have hby := Bd.bytes
  have hml : c.maxLocals = 2 := hml0
  have hown : s.vm.findClass "java/util/Objects" = some m.cls := findClass_of_methodNamed Bd.named
  have hnm := (name_of_methodNamed Bd.named Bd.method).1
  have hlk : meth.locks = false := BodyLoose.notSynchronized Bd
  have X0 : Stand p l e ({ frames := 2, cells := 0, slots := 0, locals := 26 } : Room) s m #[(.ref a1), .null] below meth c s₁ [] 0 0 := Stand.of_body Bd
  have e0 : s₁.heap = h0 := by rw [← hh, Bd.state]; rfl
  have N := Fr.nil Z.heap.size
  show own_Done p.tables e below (own_R (QP Z (.int (0 : Int32)) h0) s 0 0) s₁ (entryFrame m #[(.ref a1), .null] 2)
  refine own_st (T' := s₁) (F' := (mkF m 0 #[.val (.ref a1), .val .null] [])) (fun t k => castTop (by first | rfl | (simp [entryFrame, mkF, argsToLocals, Value.category]; done)) k) ?_
  refine own_st (T' := s₁) (F' := (mkF m 1 #[.val (.ref a1), .val .null] [(.ref a1)])) (fun t k => XS.aloadN X0.here hx rfl (hb hby d8_0) rfl rfl k) ?_
  refine own_st (T' := s₁) (F' := (mkF m 2 #[.val (.ref a1), .val .null] [.null, (.ref a1)])) (fun t k => XS.aloadN X0.here hx rfl (hb hby d8_1) rfl rfl k) ?_
  refine own_st (T' := s₁) (F' := (mkF m 5 #[.val (.ref a1), .val .null] [])) (fun t k => Jvm.RoadKit.acmp (g := (mkF m 2 #[.val (.ref a1), .val .null] [.null, (.ref a1)])) X0 hx rfl rfl rfl (pc0 := 2) (pc' := 5) (same := false) rfl (hb hby d8_2) rfl (decide_eq_false nofun) (by decide) (by decide) k) ?_
  refine own_st (T' := s₁) (F' := (mkF m 6 #[.val (.ref a1), .val .null] [(.ref a1)])) (fun t k => XS.aloadN X0.here hx rfl (hb hby d8_5) rfl rfl k) ?_
  refine own_st (T' := s₁) (F' := (mkF m 9 #[.val (.ref a1), .val .null] [])) (fun t k => XS.ifnullNo X0.here hx rfl (hb hby d8_6) rfl k) ?_
  refine own_st (T' := s₁) (F' := (mkF m 10 #[.val (.ref a1), .val .null] [(.ref a1)])) (fun t k => XS.aloadN X0.here hx rfl (hb hby d8_9) rfl rfl k) ?_
  refine own_st (T' := s₁) (F' := (mkF m 11 #[.val (.ref a1), .val .null] [.null, (.ref a1)])) (fun t k => XS.aloadN X0.here hx rfl (hb hby d8_10) rfl rfl k) ?_
  obtain ⟨cq1, kq1, q1a, q1b, q1c⟩ := isOf hZ e0 E1
  obtain ⟨v1, _, ⟨T1, L1, k1, n1⟩, -, X1, ⟨Lc1, hQ1, l1, y1, z1⟩, st1⟩ := X0.virtualBack hx (y := (⟨"java/lang/Object", "equals", "(Ljava/lang/Object;)Z"⟩ : MethodName)) (z := (⟨"java/lang/Integer", "equals", "(Ljava/lang/Object;)Z"⟩ : MethodName)) hown (mvT hZ (hw _ (List.mem_of_getElem? (i := 45) rfl))) (mvT hZ (hw _ (List.mem_of_getElem? (i := 46) rfl))) (nf_top (args := #[]) (mvT hZ (hw _ (List.mem_of_getElem? (i := 73) rfl)))) (mvT hZ (hw _ (List.mem_of_getElem? (i := 48) rfl))) (mvT hZ (hw _ (List.mem_of_getElem? (i := 49) rfl))) (by decide) (backOf (W := 0) (rmIQ_N l Z a0 CX [] a1 h0 O) hZ (hw _ (List.mem_of_getElem? (i := 50) rfl)) (hw _ (List.mem_of_getElem? (i := 11) rfl)) (by decide) (by decide)) q1a q1c (g := (mkF m 11 #[.val (.ref a1), .val .null] [.null, (.ref a1)])) rfl (by rw [hml]; rfl) (Steps.refl _) (argsL := [.null]) (rest := []) (lenOf pd_3 rfl) rfl (by show 2 * 0 + _ ≤ _; exact Nat.le_of_eq rfl) (hb hby d8_11) (fun _ _ => ⟨rfl, e0, (by decide : 0 + 0 ≤ _), (by decide : 0 + 0 ≤ _)⟩)
  dsimp only [Pt.U, Pt.locs, Pt.cells, Pt.slots] at X1 l1 y1 z1 st1 hQ1
  subst l1 y1 z1
  obtain ⟨rfl, N1q, e1⟩ := hQ1
  have N := Fr.app N N1q
  refine own_tr (T' := T1) (F' := (mkF m 14 #[.val (.ref a1), .val .null] [(.int (0 : Int32))])) st1 ?_
  refine own_st (T' := T1) (F' := (mkF m 21 #[.val (.ref a1), .val .null] [])) (fun t k => XS.ifYes X1.here hx rfl (pc0 := 14) (pc' := 21) rfl (hb hby d8_14) rfl ((if0 _ _).trans (teq rfl).1) (by decide) (by decide) k) ?_
  refine own_st (T' := T1) (F' := (mkF m 22 #[.val (.ref a1), .val .null] [(.int (0 : Int32))])) (fun t k => XS.iconst X1.here hx rfl (hb hby d8_21) k) ?_
  exact own_retN X1 hx (t := .boolean) Bd.returns (by simp) (by decide) (hb hby d8_22) hlk (by show QP Z (.int (0 : Int32)) h0 _ T1.heap _; rw [e1]; exact ⟨rfl, N, rfl⟩) (by decide) (by decide)
set_option maxRecDepth 65536 in
set_option maxHeartbeats 40000000 in
theorem rmO_RR (l : Launch) (Z : State) (a0 : Array Value) {w_ic : Addr} {cl_ic : Cell} (CX : Ctx Z a0 w_ic cl_ic) (ws : List Jvm.Cond) (a1 a2 : Addr) (q1 q2 r : Int32) (h0 : Heap) (O : Ext Z.heap h0) (E1 : Exa Z h0 a1 "java/lang/Integer") (F1 : Fld Z h0 a1 "java/lang/Integer" "value" "I" (.int q1)) (E2 : Exa Z h0 a2 "java/lang/Integer") (F2 : Fld Z h0 a2 "java/lang/Integer" "value" "I" (.int q2)) (hr : r = if q1 = q2 then 1 else 0) :
    MetFree l (⟨"java/util/Objects", "equals", "(Ljava/lang/Object;Ljava/lang/Object;)Z"⟩ : MethodName) (head1 (Jvm.Cond.code (⟨"java/util/Objects", "equals", "(Ljava/lang/Object;Ljava/lang/Object;)Z"⟩ : MethodName) jdk_31_method_2_code 2 (some .boolean) :: ws) ({ frames := 2, cells := 0, slots := 0, locals := 26 } : Room)) (fun a U => a = #[(.ref a1), (.ref a2)] ∧ Z.Warmed39 U.vm ∧ U.heap = h0) (fun _ _ _ _ _ => True) (fun _ U o U' => ∃ v L, o = .returned v ∧ QP Z (.int r) h0 v U'.heap L ∧ FrameEnd U o U' L ({ frames := 2, cells := 0, slots := 0, locals := 26 } : Room).cells ({ frames := 2, cells := 0, slots := 0, locals := 26 } : Room).slots) := by
  refine MetFree.of_bodySF (plainFor_of_name pn_4) hisR ?_
  intro p e s m args below meth c s₁ Bd hml0 hP hK
  obtain ⟨rfl, hZ, hh⟩ := hP
  have CX0 := CX
  obtain ⟨hw, S_ih, S_ic, B_ic, -⟩ := CX0
  have hx := Bd.exec
  have hby := Bd.bytes
  have hml : c.maxLocals = 2 := hml0
  have hown : s.vm.findClass "java/util/Objects" = some m.cls := findClass_of_methodNamed Bd.named
  have hnm := (name_of_methodNamed Bd.named Bd.method).1
  have hlk : meth.locks = false := BodyLoose.notSynchronized Bd
  have X0 : Stand p l e ({ frames := 2, cells := 0, slots := 0, locals := 26 } : Room) s m #[(.ref a1), (.ref a2)] below meth c s₁ [] 0 0 := Stand.of_body Bd
  have e0 : s₁.heap = h0 := by rw [← hh, Bd.state]; rfl
  have N := Fr.nil Z.heap.size
  show own_Done p.tables e below (own_R (QP Z (.int r) h0) s 0 0) s₁ (entryFrame m #[(.ref a1), (.ref a2)] 2)
  refine own_st (T' := s₁) (F' := (mkF m 0 #[.val (.ref a1), .val (.ref a2)] [])) (fun t k => castTop (by first | rfl | (simp [entryFrame, mkF, argsToLocals, Value.category]; done)) k) ?_
  refine own_st (T' := s₁) (F' := (mkF m 1 #[.val (.ref a1), .val (.ref a2)] [(.ref a1)])) (fun t k => XS.aloadN X0.here hx rfl (hb hby d8_0) rfl rfl k) ?_
  refine own_st (T' := s₁) (F' := (mkF m 2 #[.val (.ref a1), .val (.ref a2)] [(.ref a2), (.ref a1)])) (fun t k => XS.aloadN X0.here hx rfl (hb hby d8_1) rfl rfl k) ?_
  by_cases ha2_1 : a1 = a2
  · refine own_st (T' := s₁) (F' := (mkF m 17 #[.val (.ref a1), .val (.ref a2)] [])) (fun t k => Jvm.RoadKit.acmp (g := (mkF m 2 #[.val (.ref a1), .val (.ref a2)] [(.ref a2), (.ref a1)])) X0 hx rfl rfl rfl (pc0 := 2) (pc' := 17) (same := true) rfl (hb hby d8_2) rfl (decide_eq_true (congrArg Value.ref ha2_1)) (by decide) (by decide) k) ?_
    refine own_st (T' := s₁) (F' := (mkF m 18 #[.val (.ref a1), .val (.ref a2)] [(.int (1 : Int32))])) (fun t k => XS.iconst X0.here hx rfl (hb hby d8_17) k) ?_
    refine own_st (T' := s₁) (F' := (mkF m 22 #[.val (.ref a1), .val (.ref a2)] [(.int (1 : Int32))])) (fun t k => XS.goto X0.here hx rfl (pc0 := 18) (pc' := 22) rfl (hb hby d8_18) (by decide) (by decide) k) ?_
    exact own_retN X0 hx (t := .boolean) Bd.returns (by simp) (by decide) (hb hby d8_22) hlk (by show QP Z (.int r) h0 _ s₁.heap _; rw [e0]; exact ⟨by rw [hr, if_pos (by subst ha2_1; exact Value.int.inj (own_fld_uniq F1 F2))], N, rfl⟩) (by decide) (by decide)
  · refine own_st (T' := s₁) (F' := (mkF m 5 #[.val (.ref a1), .val (.ref a2)] [])) (fun t k => Jvm.RoadKit.acmp (g := (mkF m 2 #[.val (.ref a1), .val (.ref a2)] [(.ref a2), (.ref a1)])) X0 hx rfl rfl rfl (pc0 := 2) (pc' := 5) (same := false) rfl (hb hby d8_2) rfl (decide_eq_false fun q => ha2_1 (Value.ref.inj q)) (by decide) (by decide) k) ?_
    refine own_st (T' := s₁) (F' := (mkF m 6 #[.val (.ref a1), .val (.ref a2)] [(.ref a1)])) (fun t k => XS.aloadN X0.here hx rfl (hb hby d8_5) rfl rfl k) ?_
    refine own_st (T' := s₁) (F' := (mkF m 9 #[.val (.ref a1), .val (.ref a2)] [])) (fun t k => XS.ifnullNo X0.here hx rfl (hb hby d8_6) rfl k) ?_
    refine own_st (T' := s₁) (F' := (mkF m 10 #[.val (.ref a1), .val (.ref a2)] [(.ref a1)])) (fun t k => XS.aloadN X0.here hx rfl (hb hby d8_9) rfl rfl k) ?_
    refine own_st (T' := s₁) (F' := (mkF m 11 #[.val (.ref a1), .val (.ref a2)] [(.ref a2), (.ref a1)])) (fun t k => XS.aloadN X0.here hx rfl (hb hby d8_10) rfl rfl k) ?_
    obtain ⟨cq2, kq2, q2a, q2b, q2c⟩ := isOf hZ e0 E1
    obtain ⟨v2, _, ⟨T2, L2, k2, n2⟩, -, X2, ⟨Lc2, hQ2, l2, y2, z2⟩, st2⟩ := X0.virtualBack hx (y := (⟨"java/lang/Object", "equals", "(Ljava/lang/Object;)Z"⟩ : MethodName)) (z := (⟨"java/lang/Integer", "equals", "(Ljava/lang/Object;)Z"⟩ : MethodName)) hown (mvT hZ (hw _ (List.mem_of_getElem? (i := 45) rfl))) (mvT hZ (hw _ (List.mem_of_getElem? (i := 46) rfl))) (nf_top (args := #[]) (mvT hZ (hw _ (List.mem_of_getElem? (i := 73) rfl)))) (mvT hZ (hw _ (List.mem_of_getElem? (i := 48) rfl))) (mvT hZ (hw _ (List.mem_of_getElem? (i := 49) rfl))) (by decide) (backOf (W := 0) (rmIQ_R l Z a0 CX [] a1 a2 q1 q2 (if q1 = q2 then 1 else 0) h0 O E2 F1 F2 rfl) hZ (hw _ (List.mem_of_getElem? (i := 50) rfl)) (hw _ (List.mem_of_getElem? (i := 11) rfl)) (by decide) (by decide)) q2a q2c (g := (mkF m 11 #[.val (.ref a1), .val (.ref a2)] [(.ref a2), (.ref a1)])) rfl (by rw [hml]; rfl) (Steps.refl _) (argsL := [(.ref a2)]) (rest := []) (lenOf pd_3 rfl) rfl (by show 2 * 0 + _ ≤ _; exact Nat.le_of_eq rfl) (hb hby d8_11) (fun _ _ => ⟨rfl, e0, (by decide : 0 + 0 ≤ _), (by decide : 0 + 0 ≤ _)⟩)
    dsimp only [Pt.U, Pt.locs, Pt.cells, Pt.slots] at X2 l2 y2 z2 st2 hQ2
    subst l2 y2 z2
    obtain ⟨rfl, N2q, e2⟩ := hQ2
    have N := Fr.app N N2q
    refine own_tr (T' := T2) (F' := (mkF m 14 #[.val (.ref a1), .val (.ref a2)] [(.int (if q1 = q2 then (1 : Int32) else 0))])) st2 ?_
    by_cases hc14_3 : (if q1 = q2 then (1 : Int32) else 0) = (0 : Int32)
    · refine own_st (T' := T2) (F' := (mkF m 21 #[.val (.ref a1), .val (.ref a2)] [])) (fun t k => XS.ifYes X2.here hx rfl (pc0 := 14) (pc' := 21) rfl (hb hby d8_14) rfl ((if0 _ _).trans (teq hc14_3).1) (by decide) (by decide) k) ?_
      refine own_st (T' := T2) (F' := (mkF m 22 #[.val (.ref a1), .val (.ref a2)] [(.int (0 : Int32))])) (fun t k => XS.iconst X2.here hx rfl (hb hby d8_21) k) ?_
      exact own_retN X2 hx (t := .boolean) Bd.returns (by simp) (by decide) (hb hby d8_22) hlk (by show QP Z (.int r) h0 _ T2.heap _; rw [e2]; exact ⟨by simp at hc14_3; simp [hr, hc14_3], N, rfl⟩) (by decide) (by decide)
    · refine own_st (T' := T2) (F' := (mkF m 17 #[.val (.ref a1), .val (.ref a2)] [])) (fun t k => XS.ifNo X2.here hx rfl (hb hby d8_14) rfl ((if0 _ _).trans (feq hc14_3).1) k) ?_
      refine own_st (T' := T2) (F' := (mkF m 18 #[.val (.ref a1), .val (.ref a2)] [(.int (1 : Int32))])) (fun t k => XS.iconst X2.here hx rfl (hb hby d8_17) k) ?_
      refine own_st (T' := T2) (F' := (mkF m 22 #[.val (.ref a1), .val (.ref a2)] [(.int (1 : Int32))])) (fun t k => XS.goto X2.here hx rfl (pc0 := 18) (pc' := 22) rfl (hb hby d8_18) (by decide) (by decide) k) ?_
      exact own_retN X2 hx (t := .boolean) Bd.returns (by simp) (by decide) (hb hby d8_22) hlk (by show QP Z (.int r) h0 _ T2.heap _; rw [e2]; exact ⟨by simp at hc14_3; simp [hr, hc14_3], N, rfl⟩) (by decide) (by decide)
theorem rmO (l : Launch) (Z : State) (a0 : Array Value) {w_ic : Addr} {cl_ic : Cell} (CX : Ctx Z a0 w_ic cl_ic) (ws : List Jvm.Cond) (u v : Value) (b1 q1 b2 q2 r : Int32) (h0 : Heap) (O : Ext Z.heap h0) (B1 : own_Bx Z h0 u b1 q1) (B2 : own_Bx Z h0 v b2 q2) (hr : r = own_eqv b1 q1 b2 q2) :
    MetFree l (⟨"java/util/Objects", "equals", "(Ljava/lang/Object;Ljava/lang/Object;)Z"⟩ : MethodName) (head1 (Jvm.Cond.code (⟨"java/util/Objects", "equals", "(Ljava/lang/Object;Ljava/lang/Object;)Z"⟩ : MethodName) jdk_31_method_2_code 2 (some .boolean) :: ws) ({ frames := 2, cells := 0, slots := 0, locals := 26 } : Room)) (fun a U => a = #[u, v] ∧ Z.Warmed39 U.vm ∧ U.heap = h0) (fun _ _ _ _ _ => True) (fun _ U o U' => ∃ v L, o = .returned v ∧ QP Z (.int r) h0 v U'.heap L ∧ FrameEnd U o U' L ({ frames := 2, cells := 0, slots := 0, locals := 26 } : Room).cells ({ frames := 2, cells := 0, slots := 0, locals := 26 } : Room).slots) := by
  rcases B1 with ⟨rfl, rfl⟩ | ⟨rfl, r1, rfl, E1, F1⟩ <;> rcases B2 with ⟨rfl, rfl⟩ | ⟨rfl, r2, rfl, E2, F2⟩
  · obtain rfl : r = 1 := by rw [hr]; simp [own_eqv]
    exact rmO_NN l Z a0 CX ws h0 O
  · obtain rfl : r = 0 := by rw [hr]; simp [own_eqv]
    exact rmO_NR l Z a0 CX ws r2 h0 O
  · obtain rfl : r = 0 := by rw [hr]; simp [own_eqv]
    exact rmO_RN l Z a0 CX ws r1 q1 h0 O E1 F1
  · exact rmO_RR l Z a0 CX ws r1 r2 q1 q2 r h0 O E1 F1 E2 F2 (by rw [hr]; simp [own_eqv])
theorem d7_0 : decode prog_2_method_7_code 0 = .ok (.aload_n 1, 1) := by decide +kernel
theorem d7_1 : decode prog_2_method_7_code 1 = .ok (.instanceof 8, 3) := by decide +kernel
theorem d7_4 : decode prog_2_method_7_code 4 = .ok (.ifCond .eq 40, 3) := by decide +kernel
theorem d7_7 : decode prog_2_method_7_code 7 = .ok (.aload_n 1, 1) := by decide +kernel
theorem d7_8 : decode prog_2_method_7_code 8 = .ok (.checkcast 8, 3) := by decide +kernel
theorem d7_11 : decode prog_2_method_7_code 11 = .ok (.astore_n 2, 1) := by decide +kernel
theorem d7_12 : decode prog_2_method_7_code 12 = .ok (.aload_n 0, 1) := by decide +kernel
theorem d7_13 : decode prog_2_method_7_code 13 = .ok (.getfield 7, 3) := by decide +kernel
theorem d7_16 : decode prog_2_method_7_code 16 = .ok (.aload_n 2, 1) := by decide +kernel
theorem d7_17 : decode prog_2_method_7_code 17 = .ok (.getfield 7, 3) := by decide +kernel
theorem d7_20 : decode prog_2_method_7_code 20 = .ok (.invokestatic 16, 3) := by decide +kernel
theorem d7_23 : decode prog_2_method_7_code 23 = .ok (.ifCond .eq 21, 3) := by decide +kernel
theorem d7_26 : decode prog_2_method_7_code 26 = .ok (.aload_n 0, 1) := by decide +kernel
theorem d7_27 : decode prog_2_method_7_code 27 = .ok (.getfield 13, 3) := by decide +kernel
theorem d7_30 : decode prog_2_method_7_code 30 = .ok (.aload_n 2, 1) := by decide +kernel
theorem d7_31 : decode prog_2_method_7_code 31 = .ok (.getfield 13, 3) := by decide +kernel
theorem d7_34 : decode prog_2_method_7_code 34 = .ok (.invokestatic 16, 3) := by decide +kernel
theorem d7_37 : decode prog_2_method_7_code 37 = .ok (.ifCond .eq 7, 3) := by decide +kernel
theorem d7_40 : decode prog_2_method_7_code 40 = .ok (.iconst 1, 1) := by decide +kernel
theorem d7_41 : decode prog_2_method_7_code 41 = .ok (.goto 4, 3) := by decide +kernel
theorem d7_44 : decode prog_2_method_7_code 44 = .ok (.iconst 0, 1) := by decide +kernel
theorem d7_45 : decode prog_2_method_7_code 45 = .ok (.ireturn, 1) := by decide +kernel
set_option maxRecDepth 65536 in
set_option maxHeartbeats 40000000 in
theorem rmE_N (l : Launch) (Z : State) (a0 : Array Value) {w_ic : Addr} {cl_ic : Cell} (CX : Ctx Z a0 w_ic cl_ic) (ws : List Jvm.Cond) (a1 : Addr) (h0 : Heap) (O : Ext Z.heap h0)  :
    MetFree l (⟨"com/example/entigate/entigate/sample/PlaylistTrackId", "equals", "(Ljava/lang/Object;)Z"⟩ : MethodName) (head1 (Jvm.Cond.code (⟨"com/example/entigate/entigate/sample/PlaylistTrackId", "equals", "(Ljava/lang/Object;)Z"⟩ : MethodName) prog_2_method_7_code 3 (some .boolean) :: ws) ({ frames := 3, cells := 0, slots := 0, locals := 39 } : Room)) (fun a U => a = #[(.ref a1), .null] ∧ Z.Warmed39 U.vm ∧ U.heap = h0) (fun _ _ _ _ _ => True) (fun _ U o U' => ∃ v L, o = .returned v ∧ QP Z (.int (0 : Int32)) h0 v U'.heap L ∧ FrameEnd U o U' L ({ frames := 3, cells := 0, slots := 0, locals := 39 } : Room).cells ({ frames := 3, cells := 0, slots := 0, locals := 39 } : Room).slots) := by
  refine MetFree.of_bodySF (plainFor_of_name pn_2) hisR ?_
  intro p e s m args below meth c s₁ Bd hml0 hP hK
  obtain ⟨rfl, hZ, hh⟩ := hP
  have CX0 := CX
  obtain ⟨hw, S_ih, S_ic, B_ic, -⟩ := CX0
  have hx := Bd.exec
  have hby := Bd.bytes
  have hml : c.maxLocals = 3 := hml0
  have hown : s.vm.findClass "com/example/entigate/entigate/sample/PlaylistTrackId" = some m.cls := findClass_of_methodNamed Bd.named
  have hnm := (name_of_methodNamed Bd.named Bd.method).1
  have hlk : meth.locks = false := BodyLoose.notSynchronized Bd
  have X0 : Stand p l e ({ frames := 3, cells := 0, slots := 0, locals := 39 } : Room) s m #[(.ref a1), .null] below meth c s₁ [] 0 0 := Stand.of_body Bd
  have e0 : s₁.heap = h0 := by rw [← hh, Bd.state]; rfl
  have N := Fr.nil Z.heap.size
  show own_Done p.tables e below (own_R (QP Z (.int (0 : Int32)) h0) s 0 0) s₁ (entryFrame m #[(.ref a1), .null] 3)
  refine own_st (T' := s₁) (F' := (mkF m 0 #[.val (.ref a1), .val .null, .unset] [])) (fun t k => castTop (by first | rfl | (simp [entryFrame, mkF, argsToLocals, Value.category]; done)) k) ?_
  refine own_st (T' := s₁) (F' := (mkF m 1 #[.val (.ref a1), .val .null, .unset] [.null])) (fun t k => XS.aloadN X0.here hx rfl (hb hby d7_0) rfl rfl k) ?_
  refine own_st (T' := s₁) (F' := (mkF m 4 #[.val (.ref a1), .val .null, .unset] [(.int (0 : Int32))])) (fun t k => X0.instanceofNull hx (g := (mkF m 1 #[.val (.ref a1), .val .null, .unset] [.null])) rfl rfl (hb hby d7_1) _ k) ?_
  refine own_st (T' := s₁) (F' := (mkF m 44 #[.val (.ref a1), .val .null, .unset] [])) (fun t k => XS.ifYes X0.here hx rfl (pc0 := 4) (pc' := 44) rfl (hb hby d7_4) rfl ((if0 _ _).trans (teq rfl).1) (by decide) (by decide) k) ?_
  refine own_st (T' := s₁) (F' := (mkF m 45 #[.val (.ref a1), .val .null, .unset] [(.int (0 : Int32))])) (fun t k => XS.iconst X0.here hx rfl (hb hby d7_44) k) ?_
  exact own_retN X0 hx (t := .boolean) Bd.returns (by simp) (by decide) (hb hby d7_45) hlk (by show QP Z (.int (0 : Int32)) h0 _ s₁.heap _; rw [e0]; exact ⟨rfl, N, rfl⟩) (by decide) (by decide)
set_option maxRecDepth 65536 in
set_option maxHeartbeats 40000000 in
theorem rmE_I (l : Launch) (Z : State) (a0 : Array Value) {w_ic : Addr} {cl_ic : Cell} (CX : Ctx Z a0 w_ic cl_ic) (ws : List Jvm.Cond) (a1 a2 : Addr) (h0 : Heap) (O : Ext Z.heap h0) (E2 : Exa Z h0 a2 "java/lang/Integer") :
    MetFree l (⟨"com/example/entigate/entigate/sample/PlaylistTrackId", "equals", "(Ljava/lang/Object;)Z"⟩ : MethodName) (head1 (Jvm.Cond.code (⟨"com/example/entigate/entigate/sample/PlaylistTrackId", "equals", "(Ljava/lang/Object;)Z"⟩ : MethodName) prog_2_method_7_code 3 (some .boolean) :: ws) ({ frames := 3, cells := 0, slots := 0, locals := 39 } : Room)) (fun a U => a = #[(.ref a1), (.ref a2)] ∧ Z.Warmed39 U.vm ∧ U.heap = h0) (fun _ _ _ _ _ => True) (fun _ U o U' => ∃ v L, o = .returned v ∧ QP Z (.int (0 : Int32)) h0 v U'.heap L ∧ FrameEnd U o U' L ({ frames := 3, cells := 0, slots := 0, locals := 39 } : Room).cells ({ frames := 3, cells := 0, slots := 0, locals := 39 } : Room).slots) := by
  refine MetFree.of_bodySF (plainFor_of_name pn_2) hisR ?_
  intro p e s m args below meth c s₁ Bd hml0 hP hK
  obtain ⟨rfl, hZ, hh⟩ := hP
  have CX0 := CX
  obtain ⟨hw, S_ih, S_ic, B_ic, -⟩ := CX0
  have hx := Bd.exec
  have hby := Bd.bytes
  have hml : c.maxLocals = 3 := hml0
  have hown : s.vm.findClass "com/example/entigate/entigate/sample/PlaylistTrackId" = some m.cls := findClass_of_methodNamed Bd.named
  have hnm := (name_of_methodNamed Bd.named Bd.method).1
  have hlk : meth.locks = false := BodyLoose.notSynchronized Bd
  have X0 : Stand p l e ({ frames := 3, cells := 0, slots := 0, locals := 39 } : Room) s m #[(.ref a1), (.ref a2)] below meth c s₁ [] 0 0 := Stand.of_body Bd
  have e0 : s₁.heap = h0 := by rw [← hh, Bd.state]; rfl
  have N := Fr.nil Z.heap.size
  show own_Done p.tables e below (own_R (QP Z (.int (0 : Int32)) h0) s 0 0) s₁ (entryFrame m #[(.ref a1), (.ref a2)] 3)
  refine own_st (T' := s₁) (F' := (mkF m 0 #[.val (.ref a1), .val (.ref a2), .unset] [])) (fun t k => castTop (by first | rfl | (simp [entryFrame, mkF, argsToLocals, Value.category]; done)) k) ?_
  refine own_st (T' := s₁) (F' := (mkF m 1 #[.val (.ref a1), .val (.ref a2), .unset] [(.ref a2)])) (fun t k => XS.aloadN X0.here hx rfl (hb hby d7_0) rfl rfl k) ?_
  obtain ⟨T1, X1, e1, st1⟩ := instNo X0 hx hZ hown (hw _ (List.mem_of_getElem? (i := 39) rfl)) e0 E2 (own_ns_no (hw _ (List.mem_of_getElem? (i := 71) rfl)) (hw _ (List.mem_of_getElem? (i := 1) rfl)) (NS.step (hw _ (List.mem_of_getElem? (i := 71) rfl)) (NS.step (hw _ (List.mem_of_getElem? (i := 72) rfl)) (own_ns_root (hw _ (List.mem_of_getElem? (i := 73) rfl)) (hw _ (List.mem_of_getElem? (i := 1) rfl)) (by decide)) (by decide)) (by decide)) (by decide)) (g := (mkF m 1 #[.val (.ref a1), .val (.ref a2), .unset] [(.ref a2)])) rfl rfl (hb hby d7_1)
  refine own_st (T' := T1) (F' := (mkF m 4 #[.val (.ref a1), .val (.ref a2), .unset] [(.int (0 : Int32))])) st1 ?_
  refine own_st (T' := T1) (F' := (mkF m 44 #[.val (.ref a1), .val (.ref a2), .unset] [])) (fun t k => XS.ifYes X1.here hx rfl (pc0 := 4) (pc' := 44) rfl (hb hby d7_4) rfl ((if0 _ _).trans (teq rfl).1) (by decide) (by decide) k) ?_
  refine own_st (T' := T1) (F' := (mkF m 45 #[.val (.ref a1), .val (.ref a2), .unset] [(.int (0 : Int32))])) (fun t k => XS.iconst X1.here hx rfl (hb hby d7_44) k) ?_
  exact own_retN X1 hx (t := .boolean) Bd.returns (by simp) (by decide) (hb hby d7_45) hlk (by show QP Z (.int (0 : Int32)) h0 _ T1.heap _; rw [e1]; exact ⟨rfl, N, rfl⟩) (by decide) (by decide)
theorem pd_4 : parseMethodDescriptor "(Ljava/lang/Object;Ljava/lang/Object;)Z" = some ⟨[(.object "java/lang/Object"), (.object "java/lang/Object")], some .boolean⟩ := by decide +kernel
set_option maxRecDepth 65536 in
set_option maxHeartbeats 40000000 in
theorem rmE_S (l : Launch) (Z : State) (a0 : Array Value) {w_ic : Addr} {cl_ic : Cell} (CX : Ctx Z a0 w_ic cl_ic) (ws : List Jvm.Cond) (a1 a2 : Addr) (t1 t2 p1 p2 : Value) (bt1 bt2 bp1 bp2 qt1 qt2 qp1 qp2 r : Int32) (h0 : Heap) (O : Ext Z.heap h0) (E2 : Exa Z h0 a2 "com/example/entigate/entigate/sample/PlaylistTrackId") (Ft1 : Fld Z h0 a1 "com/example/entigate/entigate/sample/PlaylistTrackId" "trackId" "Ljava/lang/Integer;" t1) (Bt1 : own_Bx Z h0 t1 bt1 qt1) (Ft2 : Fld Z h0 a2 "com/example/entigate/entigate/sample/PlaylistTrackId" "trackId" "Ljava/lang/Integer;" t2) (Bt2 : own_Bx Z h0 t2 bt2 qt2) (Fp1 : Fld Z h0 a1 "com/example/entigate/entigate/sample/PlaylistTrackId" "playlistId" "Ljava/lang/Integer;" p1) (Bp1 : own_Bx Z h0 p1 bp1 qp1) (Fp2 : Fld Z h0 a2 "com/example/entigate/entigate/sample/PlaylistTrackId" "playlistId" "Ljava/lang/Integer;" p2) (Bp2 : own_Bx Z h0 p2 bp2 qp2) (hr : r = if own_eqv bt1 qt1 bt2 qt2 = 0 then 0 else if own_eqv bp1 qp1 bp2 qp2 = 0 then 0 else 1) :
    MetFree l (⟨"com/example/entigate/entigate/sample/PlaylistTrackId", "equals", "(Ljava/lang/Object;)Z"⟩ : MethodName) (head1 (Jvm.Cond.code (⟨"com/example/entigate/entigate/sample/PlaylistTrackId", "equals", "(Ljava/lang/Object;)Z"⟩ : MethodName) prog_2_method_7_code 3 (some .boolean) :: ws) ({ frames := 3, cells := 0, slots := 0, locals := 39 } : Room)) (fun a U => a = #[(.ref a1), (.ref a2)] ∧ Z.Warmed39 U.vm ∧ U.heap = h0) (fun _ _ _ _ _ => True) (fun _ U o U' => ∃ v L, o = .returned v ∧ QP Z (.int r) h0 v U'.heap L ∧ FrameEnd U o U' L ({ frames := 3, cells := 0, slots := 0, locals := 39 } : Room).cells ({ frames := 3, cells := 0, slots := 0, locals := 39 } : Room).slots) := by
  refine MetFree.of_bodySF (plainFor_of_name pn_2) hisR ?_
  intro p e s m args below meth c s₁ Bd hml0 hP hK
  obtain ⟨rfl, hZ, hh⟩ := hP
  have CX0 := CX
  obtain ⟨hw, S_ih, S_ic, B_ic, -⟩ := CX0
  have hx := Bd.exec
  have hby := Bd.bytes
  have hml : c.maxLocals = 3 := hml0
  have hown : s.vm.findClass "com/example/entigate/entigate/sample/PlaylistTrackId" = some m.cls := findClass_of_methodNamed Bd.named
  have hnm := (name_of_methodNamed Bd.named Bd.method).1
  have hlk : meth.locks = false := BodyLoose.notSynchronized Bd
  have X0 : Stand p l e ({ frames := 3, cells := 0, slots := 0, locals := 39 } : Room) s m #[(.ref a1), (.ref a2)] below meth c s₁ [] 0 0 := Stand.of_body Bd
  have e0 : s₁.heap = h0 := by rw [← hh, Bd.state]; rfl
  have N := Fr.nil Z.heap.size
  show own_Done p.tables e below (own_R (QP Z (.int r) h0) s 0 0) s₁ (entryFrame m #[(.ref a1), (.ref a2)] 3)
  refine own_st (T' := s₁) (F' := (mkF m 0 #[.val (.ref a1), .val (.ref a2), .unset] [])) (fun t k => castTop (by first | rfl | (simp [entryFrame, mkF, argsToLocals, Value.category]; done)) k) ?_
  refine own_st (T' := s₁) (F' := (mkF m 1 #[.val (.ref a1), .val (.ref a2), .unset] [(.ref a2)])) (fun t k => XS.aloadN X0.here hx rfl (hb hby d7_0) rfl rfl k) ?_
  obtain ⟨T1, X1, e1, st1⟩ := instY X0 hx hZ hown (hw _ (List.mem_of_getElem? (i := 39) rfl)) e0 (Ins.self E2) (g := (mkF m 1 #[.val (.ref a1), .val (.ref a2), .unset] [(.ref a2)])) rfl rfl (hb hby d7_1)
  refine own_st (T' := T1) (F' := (mkF m 4 #[.val (.ref a1), .val (.ref a2), .unset] [(.int (1 : Int32))])) st1 ?_
  refine own_st (T' := T1) (F' := (mkF m 7 #[.val (.ref a1), .val (.ref a2), .unset] [])) (fun t k => XS.ifNo X1.here hx rfl (hb hby d7_4) rfl ((if0 _ _).trans (feq (by decide : ¬ ((1 : Int32) = (0 : Int32)))).1) k) ?_
  refine own_st (T' := T1) (F' := (mkF m 8 #[.val (.ref a1), .val (.ref a2), .unset] [(.ref a2)])) (fun t k => XS.aloadN X1.here hx rfl (hb hby d7_7) rfl rfl k) ?_
  obtain ⟨T2, X2, e2, st2⟩ := castY X1 hx hZ hown (hw _ (List.mem_of_getElem? (i := 39) rfl)) e1 (Ins.self E2) (g := (mkF m 8 #[.val (.ref a1), .val (.ref a2), .unset] [(.ref a2)])) rfl rfl (hb hby d7_8)
  refine own_st (T' := T2) (F' := (mkF m 11 #[.val (.ref a1), .val (.ref a2), .unset] [(.ref a2)])) st2 ?_
  refine own_st (T' := T2) (F' := (mkF m 12 #[.val (.ref a1), .val (.ref a2), .val (.ref a2)] [])) (fun t k => XS.astoreN X2.here hx rfl (hb hby d7_11) rfl rfl (l' := #[.val (.ref a1), .val (.ref a2), .val (.ref a2)]) rfl k) ?_
  refine own_st (T' := T2) (F' := (mkF m 13 #[.val (.ref a1), .val (.ref a2), .val (.ref a2)] [(.ref a1)])) (fun t k => XS.aloadN X2.here hx rfl (hb hby d7_12) rfl rfl k) ?_
  obtain ⟨T3, X3, e3, st3⟩ := getF X2 hx hZ hown (host := "") (Or.inl (hw _ (List.mem_of_getElem? (i := 21) rfl))) Via.refl e2 Ft1 (g := (mkF m 13 #[.val (.ref a1), .val (.ref a2), .val (.ref a2)] [(.ref a1)])) rfl rfl (hb hby d7_13)
  refine own_st (T' := T3) (F' := (mkF m 16 #[.val (.ref a1), .val (.ref a2), .val (.ref a2)] [t1])) st3 ?_
  refine own_st (T' := T3) (F' := (mkF m 17 #[.val (.ref a1), .val (.ref a2), .val (.ref a2)] [(.ref a2), t1])) (fun t k => XS.aloadN X3.here hx rfl (hb hby d7_16) rfl rfl k) ?_
  obtain ⟨T4, X4, e4, st4⟩ := getF X3 hx hZ hown (host := "") (Or.inl (hw _ (List.mem_of_getElem? (i := 21) rfl))) Via.refl e3 Ft2 (g := (mkF m 17 #[.val (.ref a1), .val (.ref a2), .val (.ref a2)] [(.ref a2), t1])) rfl rfl (hb hby d7_17)
  refine own_st (T' := T4) (F' := (mkF m 20 #[.val (.ref a1), .val (.ref a2), .val (.ref a2)] [t2, t1])) st4 ?_
  obtain ⟨v5, _, ⟨T5, L5, k5, n5⟩, -, X5, ⟨Lc5, hQ5, l5, y5, z5⟩, st5⟩ := Jvm.LawKit.callS X4 hx (y := (⟨"java/util/Objects", "equals", "(Ljava/lang/Object;Ljava/lang/Object;)Z"⟩ : MethodName)) hown (mvT hZ (hw _ (List.mem_of_getElem? (i := 41) rfl))) (mvT hZ (hw _ (List.mem_of_getElem? (i := 42) rfl))) (mvT hZ (hw _ (List.mem_of_getElem? (i := 43) rfl))) (mvT hZ (hw _ (List.mem_of_getElem? (i := 44) rfl))) (by decide) (backOf (W := 0) (rmO l Z a0 CX [] t1 t2 bt1 qt1 bt2 qt2 (own_eqv bt1 qt1 bt2 qt2) h0 O Bt1 Bt2 rfl) hZ (hw _ (List.mem_of_getElem? (i := 44) rfl)) (hw _ (List.mem_of_getElem? (i := 43) rfl)) (by decide) (by decide)) (g := (mkF m 20 #[.val (.ref a1), .val (.ref a2), .val (.ref a2)] [t2, t1])) rfl (by rw [hml]; rfl) (argsL := [t1, t2]) (rest := []) (lenOf pd_4 rfl) rfl (by show 2 * 0 + _ ≤ _; exact Nat.le_of_eq rfl) (hb hby d7_20) (fun _ _ => ⟨rfl, e4, (by decide : 0 + 0 ≤ _), (by decide : 0 + 0 ≤ _)⟩)
  dsimp only [Pt.U, Pt.locs, Pt.cells, Pt.slots] at X5 l5 y5 z5 st5 hQ5
  subst l5 y5 z5
  obtain ⟨rfl, N5q, e5⟩ := hQ5
  have N := Fr.app N N5q
  refine own_st (T' := T5) (F' := (mkF m 23 #[.val (.ref a1), .val (.ref a2), .val (.ref a2)] [(.int (own_eqv bt1 qt1 bt2 qt2))])) st5 ?_
  by_cases hc23_6 : (own_eqv bt1 qt1 bt2 qt2) = (0 : Int32)
  · refine own_st (T' := T5) (F' := (mkF m 44 #[.val (.ref a1), .val (.ref a2), .val (.ref a2)] [])) (fun t k => XS.ifYes X5.here hx rfl (pc0 := 23) (pc' := 44) rfl (hb hby d7_23) rfl ((if0 _ _).trans (teq hc23_6).1) (by decide) (by decide) k) ?_
    refine own_st (T' := T5) (F' := (mkF m 45 #[.val (.ref a1), .val (.ref a2), .val (.ref a2)] [(.int (0 : Int32))])) (fun t k => XS.iconst X5.here hx rfl (hb hby d7_44) k) ?_
    exact own_retN X5 hx (t := .boolean) Bd.returns (by simp) (by decide) (hb hby d7_45) hlk (by show QP Z (.int r) h0 _ T5.heap _; rw [e5]; exact ⟨by simp [hr, hc23_6], N, rfl⟩) (by decide) (by decide)
  · refine own_st (T' := T5) (F' := (mkF m 26 #[.val (.ref a1), .val (.ref a2), .val (.ref a2)] [])) (fun t k => XS.ifNo X5.here hx rfl (hb hby d7_23) rfl ((if0 _ _).trans (feq hc23_6).1) k) ?_
    refine own_st (T' := T5) (F' := (mkF m 27 #[.val (.ref a1), .val (.ref a2), .val (.ref a2)] [(.ref a1)])) (fun t k => XS.aloadN X5.here hx rfl (hb hby d7_26) rfl rfl k) ?_
    obtain ⟨T7, X7, e7, st7⟩ := getF X5 hx hZ hown (host := "") (Or.inl (hw _ (List.mem_of_getElem? (i := 28) rfl))) Via.refl e5 Fp1 (g := (mkF m 27 #[.val (.ref a1), .val (.ref a2), .val (.ref a2)] [(.ref a1)])) rfl rfl (hb hby d7_27)
    refine own_st (T' := T7) (F' := (mkF m 30 #[.val (.ref a1), .val (.ref a2), .val (.ref a2)] [p1])) st7 ?_
    refine own_st (T' := T7) (F' := (mkF m 31 #[.val (.ref a1), .val (.ref a2), .val (.ref a2)] [(.ref a2), p1])) (fun t k => XS.aloadN X7.here hx rfl (hb hby d7_30) rfl rfl k) ?_
    obtain ⟨T8, X8, e8, st8⟩ := getF X7 hx hZ hown (host := "") (Or.inl (hw _ (List.mem_of_getElem? (i := 28) rfl))) Via.refl e7 Fp2 (g := (mkF m 31 #[.val (.ref a1), .val (.ref a2), .val (.ref a2)] [(.ref a2), p1])) rfl rfl (hb hby d7_31)
    refine own_st (T' := T8) (F' := (mkF m 34 #[.val (.ref a1), .val (.ref a2), .val (.ref a2)] [p2, p1])) st8 ?_
    obtain ⟨v9, _, ⟨T9, L9, k9, n9⟩, -, X9, ⟨Lc9, hQ9, l9, y9, z9⟩, st9⟩ := Jvm.LawKit.callS X8 hx (y := (⟨"java/util/Objects", "equals", "(Ljava/lang/Object;Ljava/lang/Object;)Z"⟩ : MethodName)) hown (mvT hZ (hw _ (List.mem_of_getElem? (i := 41) rfl))) (mvT hZ (hw _ (List.mem_of_getElem? (i := 42) rfl))) (mvT hZ (hw _ (List.mem_of_getElem? (i := 43) rfl))) (mvT hZ (hw _ (List.mem_of_getElem? (i := 44) rfl))) (by decide) (backOf (W := 0) (rmO l Z a0 CX [] p1 p2 bp1 qp1 bp2 qp2 (own_eqv bp1 qp1 bp2 qp2) h0 O Bp1 Bp2 rfl) hZ (hw _ (List.mem_of_getElem? (i := 44) rfl)) (hw _ (List.mem_of_getElem? (i := 43) rfl)) (by decide) (by decide)) (g := (mkF m 34 #[.val (.ref a1), .val (.ref a2), .val (.ref a2)] [p2, p1])) rfl (by rw [hml]; rfl) (argsL := [p1, p2]) (rest := []) (lenOf pd_4 rfl) rfl (by show 2 * 0 + _ ≤ _; exact Nat.le_of_eq rfl) (hb hby d7_34) (fun _ _ => ⟨rfl, e8, (by decide : 0 + 0 ≤ _), (by decide : 0 + 0 ≤ _)⟩)
    dsimp only [Pt.U, Pt.locs, Pt.cells, Pt.slots] at X9 l9 y9 z9 st9 hQ9
    subst l9 y9 z9
    obtain ⟨rfl, N9q, e9⟩ := hQ9
    have N := Fr.app N N9q
    refine own_st (T' := T9) (F' := (mkF m 37 #[.val (.ref a1), .val (.ref a2), .val (.ref a2)] [(.int (own_eqv bp1 qp1 bp2 qp2))])) st9 ?_
    by_cases hc37_10 : (own_eqv bp1 qp1 bp2 qp2) = (0 : Int32)
    · refine own_st (T' := T9) (F' := (mkF m 44 #[.val (.ref a1), .val (.ref a2), .val (.ref a2)] [])) (fun t k => XS.ifYes X9.here hx rfl (pc0 := 37) (pc' := 44) rfl (hb hby d7_37) rfl ((if0 _ _).trans (teq hc37_10).1) (by decide) (by decide) k) ?_
      refine own_st (T' := T9) (F' := (mkF m 45 #[.val (.ref a1), .val (.ref a2), .val (.ref a2)] [(.int (0 : Int32))])) (fun t k => XS.iconst X9.here hx rfl (hb hby d7_44) k) ?_
      exact own_retN X9 hx (t := .boolean) Bd.returns (by simp) (by decide) (hb hby d7_45) hlk (by show QP Z (.int r) h0 _ T9.heap _; rw [e9]; exact ⟨by simp [hr, hc23_6, hc37_10], N, rfl⟩) (by decide) (by decide)
    · refine own_st (T' := T9) (F' := (mkF m 40 #[.val (.ref a1), .val (.ref a2), .val (.ref a2)] [])) (fun t k => XS.ifNo X9.here hx rfl (hb hby d7_37) rfl ((if0 _ _).trans (feq hc37_10).1) k) ?_
      refine own_st (T' := T9) (F' := (mkF m 41 #[.val (.ref a1), .val (.ref a2), .val (.ref a2)] [(.int (1 : Int32))])) (fun t k => XS.iconst X9.here hx rfl (hb hby d7_40) k) ?_
      refine own_st (T' := T9) (F' := (mkF m 45 #[.val (.ref a1), .val (.ref a2), .val (.ref a2)] [(.int (1 : Int32))])) (fun t k => XS.goto X9.here hx rfl (pc0 := 41) (pc' := 45) rfl (hb hby d7_41) (by decide) (by decide) k) ?_
      exact own_retN X9 hx (t := .boolean) Bd.returns (by simp) (by decide) (hb hby d7_45) hlk (by show QP Z (.int r) h0 _ T9.heap _; rw [e9]; exact ⟨by simp [hr, hc23_6, hc37_10], N, rfl⟩) (by decide) (by decide)
theorem pd_5 : parseMethodDescriptor "(I)Ljava/lang/Integer;" = some ⟨[.int], some (.object "java/lang/Integer")⟩ := by decide +kernel
theorem pd_6 : parseMethodDescriptor "(ZIZI)Z" = some ⟨[.boolean, .int, .boolean, .int], some .boolean⟩ := by decide +kernel
theorem pd_7 : parseMethodDescriptor "(Ljava/lang/Integer;)V" = some ⟨[(.object "java/lang/Integer")], none⟩ := by decide +kernel
set_option maxRecDepth 65536 in
set_option maxHeartbeats 40000000 in
theorem rm0 (l : Launch) (Z : State) (a0 : Array Value) {w_ic : Addr} {cl_ic : Cell} (CX : Ctx Z a0 w_ic cl_ic) (ws : List Jvm.Cond) (x0 : Int32) (x1 : Int32) (x2 : Int32) (x3 : Int32) (x4 : Int32) (h0 : Heap) (O : Ext Z.heap h0)  :
    MetFree l x (head1 (Jvm.Cond.code x code maxLocals ret :: ws) room_1) (fun a U => a = #[(.int x0), (.int x1), (.int x2), (.int x3), (.int x4)] ∧ Z.Warmed39 U.vm ∧ U.heap = h0) (fun _ _ _ _ _ => True) (fun _ U o U' => ∃ v L, o = .returned v ∧ Q0 Z v U'.heap L ∧ FrameEnd U o U' L room_1.cells room_1.slots) := by
  refine MetFree.of_bodySF (plainFor_of_name pn_3) hisR ?_
  intro p e s m args below meth c s₁ Bd hml0 hP hK
  obtain ⟨rfl, hZ, hh⟩ := hP
  have CX0 := CX
  obtain ⟨hw, S_ih, S_ic, B_ic, -⟩ := CX0
  have hx := Bd.exec
  have hby := Bd.bytes
  have hml : c.maxLocals = 16 := hml0
  have hown : s.vm.findClass "com/example/entigate/entigate/sample/PlaylistTrackIdEqualsPinLaw" = some m.cls := findClass_of_methodNamed Bd.named
  have hnm := (name_of_methodNamed Bd.named Bd.method).1
  have hlk : meth.locks = false := BodyLoose.notSynchronized Bd
  have X0 : Stand p l e room_1 s m #[(.int x0), (.int x1), (.int x2), (.int x3), (.int x4)] below meth c s₁ [] 0 0 := Stand.of_body Bd
  have e0 : s₁.heap = h0 := by rw [← hh, Bd.state]; rfl
  have N := Fr.nil Z.heap.size
  show own_Done p.tables e below (own_R (Q0 Z) s 24 128) s₁ (entryFrame m #[(.int x0), (.int x1), (.int x2), (.int x3), (.int x4)] maxLocals)
  refine own_st (T' := s₁) (F' := (mkF m 0 #[.val (.int x0), .val (.int x1), .val (.int x2), .val (.int x3), .val (.int x4), .unset, .unset, .unset, .unset, .unset, .unset, .unset, .unset, .unset, .unset, .unset] [])) (fun t k => castTop (by first | rfl | (simp [entryFrame, mkF, argsToLocals, Value.category, maxLocals]; done)) k) ?_
  have J14_1 : ∀ (T2 : State) (L2 : List Loc) (X2 : Stand p l e room_1 s m #[(.int x0), (.int x1), (.int x2), (.int x3), (.int x4)] below meth c T2 L2 0 0) (e2 : T2.heap = h0) (N : Fr Z.heap.size L2) (b5 : Int32) (hb5 : b5 = 0 ∨ b5 = 1), own_Done p.tables e below (own_R (Q0 Z) s 24 128) T2 (mkF m 14 #[.val (.int x0), .val (.int x1), .val (.int x2), .val (.int x3), .val (.int x4), .val (.int b5), .unset, .unset, .unset, .unset, .unset, .unset, .unset, .unset, .unset, .unset] []) := by
    intro T2 L2 X2 e2 N b5 hb5
    have J28_3 : ∀ (T4 : State) (L4 : List Loc) (X4 : Stand p l e room_1 s m #[(.int x0), (.int x1), (.int x2), (.int x3), (.int x4)] below meth c T4 L4 0 0) (e4 : T4.heap = h0) (N : Fr Z.heap.size L4) (b6 : Int32) (hb6 : b6 = 0 ∨ b6 = 1), own_Done p.tables e below (own_R (Q0 Z) s 24 128) T4 (mkF m 28 #[.val (.int x0), .val (.int x1), .val (.int x2), .val (.int x3), .val (.int x4), .val (.int b5), .val (.int b6), .unset, .unset, .unset, .unset, .unset, .unset, .unset, .unset, .unset] []) := by
      intro T4 L4 X4 e4 N b6 hb6
      have J42_5 : ∀ (T6 : State) (L6 : List Loc) (X6 : Stand p l e room_1 s m #[(.int x0), (.int x1), (.int x2), (.int x3), (.int x4)] below meth c T6 L6 0 0) (e6 : T6.heap = h0) (N : Fr Z.heap.size L6) (b7 : Int32) (hb7 : b7 = 0 ∨ b7 = 1), own_Done p.tables e below (own_R (Q0 Z) s 24 128) T6 (mkF m 42 #[.val (.int x0), .val (.int x1), .val (.int x2), .val (.int x3), .val (.int x4), .val (.int b5), .val (.int b6), .val (.int b7), .unset, .unset, .unset, .unset, .unset, .unset, .unset, .unset] []) := by
        intro T6 L6 X6 e6 N b7 hb7
        have J57_7 : ∀ (T8 : State) (L8 : List Loc) (X8 : Stand p l e room_1 s m #[(.int x0), (.int x1), (.int x2), (.int x3), (.int x4)] below meth c T8 L8 0 0) (e8 : T8.heap = h0) (N : Fr Z.heap.size L8) (b8 : Int32) (hb8 : b8 = 0 ∨ b8 = 1), own_Done p.tables e below (own_R (Q0 Z) s 24 128) T8 (mkF m 57 #[.val (.int x0), .val (.int x1), .val (.int x2), .val (.int x3), .val (.int x4), .val (.int b5), .val (.int b6), .val (.int b7), .val (.int b8), .unset, .unset, .unset, .unset, .unset, .unset, .unset] []) := by
          intro T8 L8 X8 e8 N b8 hb8
          refine own_st (T' := T8) (F' := (mkF m 59 #[.val (.int x0), .val (.int x1), .val (.int x2), .val (.int x3), .val (.int x4), .val (.int b5), .val (.int b6), .val (.int b7), .val (.int b8), .unset, .unset, .unset, .unset, .unset, .unset, .unset] [(.int x4)])) (fun t k => XS.iload X8.here hx rfl (hb hby at_57) rfl k) ?_
          refine own_st (T' := T8) (F' := (mkF m 60 #[.val (.int x0), .val (.int x1), .val (.int x2), .val (.int x3), .val (.int x4), .val (.int b5), .val (.int b6), .val (.int b7), .val (.int b8), .unset, .unset, .unset, .unset, .unset, .unset, .unset] [(.int (4 : Int32)), (.int x4)])) (fun t k => XS.iconst X8.here hx rfl (hb hby at_59) k) ?_
          refine own_st (T' := T8) (F' := (mkF m 61 #[.val (.int x0), .val (.int x1), .val (.int x2), .val (.int x3), .val (.int x4), .val (.int b5), .val (.int b6), .val (.int b7), .val (.int b8), .unset, .unset, .unset, .unset, .unset, .unset, .unset] [(.int ((x4.toUInt32 >>> ((4 : Int32) &&& 31).toUInt32).toInt32))])) (fun t k => XS.iushr X8.here hx rfl (hb hby at_60) rfl k) ?_
          refine own_st (T' := T8) (F' := (mkF m 62 #[.val (.int x0), .val (.int x1), .val (.int x2), .val (.int x3), .val (.int x4), .val (.int b5), .val (.int b6), .val (.int b7), .val (.int b8), .unset, .unset, .unset, .unset, .unset, .unset, .unset] [(.int (3 : Int32)), (.int ((x4.toUInt32 >>> ((4 : Int32) &&& 31).toUInt32).toInt32))])) (fun t k => XS.iconst X8.here hx rfl (hb hby at_61) k) ?_
          refine own_st (T' := T8) (F' := (mkF m 63 #[.val (.int x0), .val (.int x1), .val (.int x2), .val (.int x3), .val (.int x4), .val (.int b5), .val (.int b6), .val (.int b7), .val (.int b8), .unset, .unset, .unset, .unset, .unset, .unset, .unset] [(.int (((x4.toUInt32 >>> ((4 : Int32) &&& 31).toUInt32).toInt32) &&& (3 : Int32)))])) (fun t k => XS.iand X8.here hx rfl (hb hby at_62) rfl k) ?_
          refine own_st (T' := T8) (F' := (mkF m 65 #[.val (.int x0), .val (.int x1), .val (.int x2), .val (.int x3), .val (.int x4), .val (.int b5), .val (.int b6), .val (.int b7), .val (.int b8), .val (.int (((x4.toUInt32 >>> ((4 : Int32) &&& 31).toUInt32).toInt32) &&& (3 : Int32))), .unset, .unset, .unset, .unset, .unset, .unset] [])) (fun t k => XS.istore X8.here hx rfl (hb hby at_63) rfl (l' := #[.val (.int x0), .val (.int x1), .val (.int x2), .val (.int x3), .val (.int x4), .val (.int b5), .val (.int b6), .val (.int b7), .val (.int b8), .val (.int (((x4.toUInt32 >>> ((4 : Int32) &&& 31).toUInt32).toInt32) &&& (3 : Int32))), .unset, .unset, .unset, .unset, .unset, .unset]) rfl k) ?_
          have J80_9 : ∀ (T10 : State) (L10 : List Loc) (X10 : Stand p l e room_1 s m #[(.int x0), (.int x1), (.int x2), (.int x3), (.int x4)] below meth c T10 L10 0 0) (e10 : T10.heap = h0) (N : Fr Z.heap.size L10) (y10 : Int32), own_Done p.tables e below (own_R (Q0 Z) s 24 128) T10 (mkF m 80 #[.val (.int x0), .val (.int x1), .val (.int x2), .val (.int x3), .val (.int x4), .val (.int b5), .val (.int b6), .val (.int b7), .val (.int b8), .val (.int (((x4.toUInt32 >>> ((4 : Int32) &&& 31).toUInt32).toInt32) &&& (3 : Int32))), .val (.int y10), .unset, .unset, .unset, .unset, .unset] []) := by
            intro T10 L10 X10 e10 N y10
            have J96_11 : ∀ (T12 : State) (L12 : List Loc) (X12 : Stand p l e room_1 s m #[(.int x0), (.int x1), (.int x2), (.int x3), (.int x4)] below meth c T12 L12 0 0) (e12 : T12.heap = h0) (N : Fr Z.heap.size L12) (y11 : Int32), own_Done p.tables e below (own_R (Q0 Z) s 24 128) T12 (mkF m 96 #[.val (.int x0), .val (.int x1), .val (.int x2), .val (.int x3), .val (.int x4), .val (.int b5), .val (.int b6), .val (.int b7), .val (.int b8), .val (.int (((x4.toUInt32 >>> ((4 : Int32) &&& 31).toUInt32).toInt32) &&& (3 : Int32))), .val (.int y10), .val (.int y11), .unset, .unset, .unset, .unset] []) := by
              intro T12 L12 X12 e12 N y11
              obtain ⟨T13, h13, X13, e13, E13, A13, D13, U13, st13⟩ := newO X12 hx hZ hown (hw _ (List.mem_of_getElem? (i := 0) rfl)) (hw _ (List.mem_of_getElem? (i := 1) rfl)) (hw _ (List.mem_of_getElem? (i := 2) rfl)) e12 (g := (mkF m 96 #[.val (.int x0), .val (.int x1), .val (.int x2), .val (.int x3), .val (.int x4), .val (.int b5), .val (.int b6), .val (.int b7), .val (.int b8), .val (.int (((x4.toUInt32 >>> ((4 : Int32) &&& 31).toUInt32).toInt32) &&& (3 : Int32))), .val (.int y10), .val (.int y11), .unset, .unset, .unset, .unset] [])) rfl (hb hby at_96) (by decide) (by decide)
              obtain ⟨b13, g13⟩ : ∃ z, z = h0.size := ⟨_, rfl⟩
              rw [← g13] at A13 D13 U13 st13
              have g_b13 : Z.heap.size ≤ b13 := Nat.le_trans O.1 (Nat.le_of_eq g13.symm)
              have O := own_ext_trans O E13
              have E_b13 := A13
              have F_trackId_b13 : Fld Z h13 b13 "com/example/entigate/entigate/sample/PlaylistTrackId" "trackId" "Ljava/lang/Integer;" .null := D13 (Or.inl (hw _ (List.mem_of_getElem? (i := 22) rfl))) (ty := (.object "java/lang/Integer")) (by decide)
              have F_playlistId_b13 : Fld Z h13 b13 "com/example/entigate/entigate/sample/PlaylistTrackId" "playlistId" "Ljava/lang/Integer;" .null := D13 (Or.inl (hw _ (List.mem_of_getElem? (i := 29) rfl))) (ty := (.object "java/lang/Integer")) (by decide)
              refine own_st (T' := T13) (F' := (mkF m 99 #[.val (.int x0), .val (.int x1), .val (.int x2), .val (.int x3), .val (.int x4), .val (.int b5), .val (.int b6), .val (.int b7), .val (.int b8), .val (.int (((x4.toUInt32 >>> ((4 : Int32) &&& 31).toUInt32).toInt32) &&& (3 : Int32))), .val (.int y10), .val (.int y11), .unset, .unset, .unset, .unset] [(.ref b13)])) st13 ?_
              refine own_st (T' := T13) (F' := (mkF m 100 #[.val (.int x0), .val (.int x1), .val (.int x2), .val (.int x3), .val (.int x4), .val (.int b5), .val (.int b6), .val (.int b7), .val (.int b8), .val (.int (((x4.toUInt32 >>> ((4 : Int32) &&& 31).toUInt32).toInt32) &&& (3 : Int32))), .val (.int y10), .val (.int y11), .unset, .unset, .unset, .unset] [(.ref b13), (.ref b13)])) (fun t k => XS.dup X13.here hx rfl (hb hby at_99) rfl rfl k) ?_
              obtain ⟨v14, _, ⟨T14, L14, k14, n14⟩, -, X14, ⟨Lc14, hQ14, l14, y14, z14⟩, st14⟩ := X13.specialBack hx (y := (⟨"com/example/entigate/entigate/sample/PlaylistTrackId", "<init>", "()V"⟩ : MethodName)) rfl hown (mvT hZ (hw _ (List.mem_of_getElem? (i := 3) rfl))) (mvT hZ (hw _ (List.mem_of_getElem? (i := 4) rfl))) (mvT hZ (hw _ (List.mem_of_getElem? (i := 5) rfl))) (by decide) (backOf (W := 1) (rm1 l Z a0 CX [] b13 .null rfl .null rfl h13 O E_b13 g_b13 F_trackId_b13 F_playlistId_b13) hZ (hw _ (List.mem_of_getElem? (i := 5) rfl)) (hw _ (List.mem_of_getElem? (i := 2) rfl)) (by decide) (by decide)) (g := (mkF m 100 #[.val (.int x0), .val (.int x1), .val (.int x2), .val (.int x3), .val (.int x4), .val (.int b5), .val (.int b6), .val (.int b7), .val (.int b8), .val (.int (((x4.toUInt32 >>> ((4 : Int32) &&& 31).toUInt32).toInt32) &&& (3 : Int32))), .val (.int y10), .val (.int y11), .unset, .unset, .unset, .unset] [(.ref b13), (.ref b13)])) rfl (by rw [hml]; rfl) (Steps.refl _) (a := b13) (argsL := []) (rest := [(.ref b13)]) (lenOf pd_0 rfl) rfl (by show 2 * 0 + _ ≤ _; exact Nat.le_of_eq rfl) (hb hby at_100) (fun _ _ => ⟨rfl, e13, (by decide : 1 + 0 ≤ _), (by decide : 2 + 0 ≤ _)⟩)
              dsimp only [Pt.U, Pt.locs, Pt.cells, Pt.slots] at X14 l14 y14 z14 st14 hQ14
              subst l14 y14 z14
              obtain ⟨rfl, N14q, K14, F_trackId_b13, F_playlistId_b13⟩ := hQ14
              have N := Fr.app N N14q
              have E_b13 := E_b13.keep K14
              have O := own_O_keep O K14 (allS g_b13 all0)
              refine own_tr (T' := T14) (F' := (mkF m 103 #[.val (.int x0), .val (.int x1), .val (.int x2), .val (.int x3), .val (.int x4), .val (.int b5), .val (.int b6), .val (.int b7), .val (.int b8), .val (.int (((x4.toUInt32 >>> ((4 : Int32) &&& 31).toUInt32).toInt32) &&& (3 : Int32))), .val (.int y10), .val (.int y11), .unset, .unset, .unset, .unset] [(.ref b13)])) st14 ?_
              refine own_st (T' := T14) (F' := (mkF m 105 #[.val (.int x0), .val (.int x1), .val (.int x2), .val (.int x3), .val (.int x4), .val (.int b5), .val (.int b6), .val (.int b7), .val (.int b8), .val (.int (((x4.toUInt32 >>> ((4 : Int32) &&& 31).toUInt32).toInt32) &&& (3 : Int32))), .val (.int y10), .val (.int y11), .val (.ref b13), .unset, .unset, .unset] [])) (fun t k => XS.astore X14.here hx rfl (hb hby at_103) rfl rfl (l' := #[.val (.int x0), .val (.int x1), .val (.int x2), .val (.int x3), .val (.int x4), .val (.int b5), .val (.int b6), .val (.int b7), .val (.int b8), .val (.int (((x4.toUInt32 >>> ((4 : Int32) &&& 31).toUInt32).toInt32) &&& (3 : Int32))), .val (.int y10), .val (.int y11), .val (.ref b13), .unset, .unset, .unset]) rfl k) ?_
              have J119_15 : ∀ (T16 : State) (h16 : Heap) (L16 : List Loc) (X16 : Stand p l e room_1 s m #[(.int x0), (.int x1), (.int x2), (.int x3), (.int x4)] below meth c T16 L16 2 3) (e16 : T16.heap = h16) (N : Fr Z.heap.size L16) (O : Ext Z.heap h16) (wt : Value) (hwt : wt.isRef = true) (E_b13 : Exa Z h16 b13 "com/example/entigate/entigate/sample/PlaylistTrackId") (F_trackId_b13 : Fld Z h16 b13 "com/example/entigate/entigate/sample/PlaylistTrackId" "trackId" "Ljava/lang/Integer;" wt) (F_playlistId_b13 : Fld Z h16 b13 "com/example/entigate/entigate/sample/PlaylistTrackId" "playlistId" "Ljava/lang/Integer;" .null) (B_wt : own_Bx Z h16 wt b5 x0), own_Done p.tables e below (own_R (Q0 Z) s 24 128) T16 (mkF m 119 #[.val (.int x0), .val (.int x1), .val (.int x2), .val (.int x3), .val (.int x4), .val (.int b5), .val (.int b6), .val (.int b7), .val (.int b8), .val (.int (((x4.toUInt32 >>> ((4 : Int32) &&& 31).toUInt32).toInt32) &&& (3 : Int32))), .val (.int y10), .val (.int y11), .val (.ref b13), .unset, .unset, .unset] []) := by
                intro T16 h16 L16 X16 e16 N O wt hwt E_b13 F_trackId_b13 F_playlistId_b13 B_wt
                have J133_17 : ∀ (T18 : State) (h18 : Heap) (L18 : List Loc) (X18 : Stand p l e room_1 s m #[(.int x0), (.int x1), (.int x2), (.int x3), (.int x4)] below meth c T18 L18 3 4) (e18 : T18.heap = h18) (N : Fr Z.heap.size L18) (O : Ext Z.heap h18) (wp : Value) (hwp : wp.isRef = true) (E_b13 : Exa Z h18 b13 "com/example/entigate/entigate/sample/PlaylistTrackId") (F_trackId_b13 : Fld Z h18 b13 "com/example/entigate/entigate/sample/PlaylistTrackId" "trackId" "Ljava/lang/Integer;" wt) (F_playlistId_b13 : Fld Z h18 b13 "com/example/entigate/entigate/sample/PlaylistTrackId" "playlistId" "Ljava/lang/Integer;" wp) (B_wt : own_Bx Z h18 wt b5 x0) (B_wp : own_Bx Z h18 wp b6 x1), own_Done p.tables e below (own_R (Q0 Z) s 24 128) T18 (mkF m 133 #[.val (.int x0), .val (.int x1), .val (.int x2), .val (.int x3), .val (.int x4), .val (.int b5), .val (.int b6), .val (.int b7), .val (.int b8), .val (.int (((x4.toUInt32 >>> ((4 : Int32) &&& 31).toUInt32).toInt32) &&& (3 : Int32))), .val (.int y10), .val (.int y11), .val (.ref b13), .unset, .unset, .unset] []) := by
                  intro T18 h18 L18 X18 e18 N O wp hwp E_b13 F_trackId_b13 F_playlistId_b13 B_wt B_wp
                  obtain ⟨T19, h19, X19, e19, E19, A19, D19, U19, st19⟩ := newO X18 hx hZ hown (hw _ (List.mem_of_getElem? (i := 0) rfl)) (hw _ (List.mem_of_getElem? (i := 1) rfl)) (hw _ (List.mem_of_getElem? (i := 2) rfl)) e18 (g := (mkF m 133 #[.val (.int x0), .val (.int x1), .val (.int x2), .val (.int x3), .val (.int x4), .val (.int b5), .val (.int b6), .val (.int b7), .val (.int b8), .val (.int (((x4.toUInt32 >>> ((4 : Int32) &&& 31).toUInt32).toInt32) &&& (3 : Int32))), .val (.int y10), .val (.int y11), .val (.ref b13), .unset, .unset, .unset] [])) rfl (hb hby at_133) (by decide) (by decide)
                  obtain ⟨b19, g19⟩ : ∃ z, z = h18.size := ⟨_, rfl⟩
                  rw [← g19] at A19 D19 U19 st19
                  have ne_b13_b19 : b13 ≠ b19 := Nat.ne_of_lt (Nat.lt_of_lt_of_le E_b13.lt (Nat.le_of_eq g19.symm))
                  have g_b19 : Z.heap.size ≤ b19 := Nat.le_trans O.1 (Nat.le_of_eq g19.symm)
                  have B_wt := B_wt.ext E19
                  have B_wp := B_wp.ext E19
                  have E_b13 := E_b13.ext E19
                  have F_trackId_b13 := F_trackId_b13.ext E19
                  have F_playlistId_b13 := F_playlistId_b13.ext E19
                  have O := own_ext_trans O E19
                  have E_b19 := A19
                  have F_trackId_b19 : Fld Z h19 b19 "com/example/entigate/entigate/sample/PlaylistTrackId" "trackId" "Ljava/lang/Integer;" .null := D19 (Or.inl (hw _ (List.mem_of_getElem? (i := 22) rfl))) (ty := (.object "java/lang/Integer")) (by decide)
                  have F_playlistId_b19 : Fld Z h19 b19 "com/example/entigate/entigate/sample/PlaylistTrackId" "playlistId" "Ljava/lang/Integer;" .null := D19 (Or.inl (hw _ (List.mem_of_getElem? (i := 29) rfl))) (ty := (.object "java/lang/Integer")) (by decide)
                  refine own_st (T' := T19) (F' := (mkF m 136 #[.val (.int x0), .val (.int x1), .val (.int x2), .val (.int x3), .val (.int x4), .val (.int b5), .val (.int b6), .val (.int b7), .val (.int b8), .val (.int (((x4.toUInt32 >>> ((4 : Int32) &&& 31).toUInt32).toInt32) &&& (3 : Int32))), .val (.int y10), .val (.int y11), .val (.ref b13), .unset, .unset, .unset] [(.ref b19)])) st19 ?_
                  refine own_st (T' := T19) (F' := (mkF m 137 #[.val (.int x0), .val (.int x1), .val (.int x2), .val (.int x3), .val (.int x4), .val (.int b5), .val (.int b6), .val (.int b7), .val (.int b8), .val (.int (((x4.toUInt32 >>> ((4 : Int32) &&& 31).toUInt32).toInt32) &&& (3 : Int32))), .val (.int y10), .val (.int y11), .val (.ref b13), .unset, .unset, .unset] [(.ref b19), (.ref b19)])) (fun t k => XS.dup X19.here hx rfl (hb hby at_136) rfl rfl k) ?_
                  obtain ⟨v20, _, ⟨T20, L20, k20, n20⟩, -, X20, ⟨Lc20, hQ20, l20, y20, z20⟩, st20⟩ := X19.specialBack hx (y := (⟨"com/example/entigate/entigate/sample/PlaylistTrackId", "<init>", "()V"⟩ : MethodName)) rfl hown (mvT hZ (hw _ (List.mem_of_getElem? (i := 3) rfl))) (mvT hZ (hw _ (List.mem_of_getElem? (i := 4) rfl))) (mvT hZ (hw _ (List.mem_of_getElem? (i := 5) rfl))) (by decide) (backOf (W := 1) (rm1 l Z a0 CX [] b19 .null rfl .null rfl h19 O E_b19 g_b19 F_trackId_b19 F_playlistId_b19) hZ (hw _ (List.mem_of_getElem? (i := 5) rfl)) (hw _ (List.mem_of_getElem? (i := 2) rfl)) (by decide) (by decide)) (g := (mkF m 137 #[.val (.int x0), .val (.int x1), .val (.int x2), .val (.int x3), .val (.int x4), .val (.int b5), .val (.int b6), .val (.int b7), .val (.int b8), .val (.int (((x4.toUInt32 >>> ((4 : Int32) &&& 31).toUInt32).toInt32) &&& (3 : Int32))), .val (.int y10), .val (.int y11), .val (.ref b13), .unset, .unset, .unset] [(.ref b19), (.ref b19)])) rfl (by rw [hml]; rfl) (Steps.refl _) (a := b19) (argsL := []) (rest := [(.ref b19)]) (lenOf pd_0 rfl) rfl (by show 2 * 0 + _ ≤ _; exact Nat.le_of_eq rfl) (hb hby at_137) (fun _ _ => ⟨rfl, e19, (by decide : 4 + 0 ≤ _), (by decide : 6 + 0 ≤ _)⟩)
                  dsimp only [Pt.U, Pt.locs, Pt.cells, Pt.slots] at X20 l20 y20 z20 st20 hQ20
                  subst l20 y20 z20
                  obtain ⟨rfl, N20q, K20, F_trackId_b19, F_playlistId_b19⟩ := hQ20
                  have N := Fr.app N N20q
                  have B_wt := B_wt.keep K20 E_b19 (by decide)
                  have B_wp := B_wp.keep K20 E_b19 (by decide)
                  have E_b13 := E_b13.keep K20
                  have F_trackId_b13 := F_trackId_b13.keep K20 (ninS ne_b13_b19 nin0)
                  have F_playlistId_b13 := F_playlistId_b13.keep K20 (ninS ne_b13_b19 nin0)
                  have E_b19 := E_b19.keep K20
                  have O := own_O_keep O K20 (allS g_b19 all0)
                  refine own_tr (T' := T20) (F' := (mkF m 140 #[.val (.int x0), .val (.int x1), .val (.int x2), .val (.int x3), .val (.int x4), .val (.int b5), .val (.int b6), .val (.int b7), .val (.int b8), .val (.int (((x4.toUInt32 >>> ((4 : Int32) &&& 31).toUInt32).toInt32) &&& (3 : Int32))), .val (.int y10), .val (.int y11), .val (.ref b13), .unset, .unset, .unset] [(.ref b19)])) st20 ?_
                  refine own_st (T' := T20) (F' := (mkF m 142 #[.val (.int x0), .val (.int x1), .val (.int x2), .val (.int x3), .val (.int x4), .val (.int b5), .val (.int b6), .val (.int b7), .val (.int b8), .val (.int (((x4.toUInt32 >>> ((4 : Int32) &&& 31).toUInt32).toInt32) &&& (3 : Int32))), .val (.int y10), .val (.int y11), .val (.ref b13), .val (.ref b19), .unset, .unset] [])) (fun t k => XS.astore X20.here hx rfl (hb hby at_140) rfl rfl (l' := #[.val (.int x0), .val (.int x1), .val (.int x2), .val (.int x3), .val (.int x4), .val (.int b5), .val (.int b6), .val (.int b7), .val (.int b8), .val (.int (((x4.toUInt32 >>> ((4 : Int32) &&& 31).toUInt32).toInt32) &&& (3 : Int32))), .val (.int y10), .val (.int y11), .val (.ref b13), .val (.ref b19), .unset, .unset]) rfl k) ?_
                  have J157_21 : ∀ (T22 : State) (h22 : Heap) (L22 : List Loc) (X22 : Stand p l e room_1 s m #[(.int x0), (.int x1), (.int x2), (.int x3), (.int x4)] below meth c T22 L22 5 7) (e22 : T22.heap = h22) (N : Fr Z.heap.size L22) (O : Ext Z.heap h22) (wu : Value) (hwu : wu.isRef = true) (E_b13 : Exa Z h22 b13 "com/example/entigate/entigate/sample/PlaylistTrackId") (F_trackId_b13 : Fld Z h22 b13 "com/example/entigate/entigate/sample/PlaylistTrackId" "trackId" "Ljava/lang/Integer;" wt) (F_playlistId_b13 : Fld Z h22 b13 "com/example/entigate/entigate/sample/PlaylistTrackId" "playlistId" "Ljava/lang/Integer;" wp) (B_wt : own_Bx Z h22 wt b5 x0) (B_wp : own_Bx Z h22 wp b6 x1) (E_b19 : Exa Z h22 b19 "com/example/entigate/entigate/sample/PlaylistTrackId") (F_trackId_b19 : Fld Z h22 b19 "com/example/entigate/entigate/sample/PlaylistTrackId" "trackId" "Ljava/lang/Integer;" wu) (F_playlistId_b19 : Fld Z h22 b19 "com/example/entigate/entigate/sample/PlaylistTrackId" "playlistId" "Ljava/lang/Integer;" .null) (B_wu : own_Bx Z h22 wu b7 y10), own_Done p.tables e below (own_R (Q0 Z) s 24 128) T22 (mkF m 157 #[.val (.int x0), .val (.int x1), .val (.int x2), .val (.int x3), .val (.int x4), .val (.int b5), .val (.int b6), .val (.int b7), .val (.int b8), .val (.int (((x4.toUInt32 >>> ((4 : Int32) &&& 31).toUInt32).toInt32) &&& (3 : Int32))), .val (.int y10), .val (.int y11), .val (.ref b13), .val (.ref b19), .unset, .unset] []) := by
                    intro T22 h22 L22 X22 e22 N O wu hwu E_b13 F_trackId_b13 F_playlistId_b13 B_wt B_wp E_b19 F_trackId_b19 F_playlistId_b19 B_wu
                    have J172_23 : ∀ (T24 : State) (h24 : Heap) (L24 : List Loc) (X24 : Stand p l e room_1 s m #[(.int x0), (.int x1), (.int x2), (.int x3), (.int x4)] below meth c T24 L24 6 8) (e24 : T24.heap = h24) (N : Fr Z.heap.size L24) (O : Ext Z.heap h24) (wq : Value) (hwq : wq.isRef = true) (E_b13 : Exa Z h24 b13 "com/example/entigate/entigate/sample/PlaylistTrackId") (F_trackId_b13 : Fld Z h24 b13 "com/example/entigate/entigate/sample/PlaylistTrackId" "trackId" "Ljava/lang/Integer;" wt) (F_playlistId_b13 : Fld Z h24 b13 "com/example/entigate/entigate/sample/PlaylistTrackId" "playlistId" "Ljava/lang/Integer;" wp) (B_wt : own_Bx Z h24 wt b5 x0) (B_wp : own_Bx Z h24 wp b6 x1) (E_b19 : Exa Z h24 b19 "com/example/entigate/entigate/sample/PlaylistTrackId") (F_trackId_b19 : Fld Z h24 b19 "com/example/entigate/entigate/sample/PlaylistTrackId" "trackId" "Ljava/lang/Integer;" wu) (F_playlistId_b19 : Fld Z h24 b19 "com/example/entigate/entigate/sample/PlaylistTrackId" "playlistId" "Ljava/lang/Integer;" wq) (B_wu : own_Bx Z h24 wu b7 y10) (B_wq : own_Bx Z h24 wq b8 y11), own_Done p.tables e below (own_R (Q0 Z) s 24 128) T24 (mkF m 172 #[.val (.int x0), .val (.int x1), .val (.int x2), .val (.int x3), .val (.int x4), .val (.int b5), .val (.int b6), .val (.int b7), .val (.int b8), .val (.int (((x4.toUInt32 >>> ((4 : Int32) &&& 31).toUInt32).toInt32) &&& (3 : Int32))), .val (.int y10), .val (.int y11), .val (.ref b13), .val (.ref b19), .unset, .unset] []) := by
                      intro T24 h24 L24 X24 e24 N O wq hwq E_b13 F_trackId_b13 F_playlistId_b13 B_wt B_wp E_b19 F_trackId_b19 F_playlistId_b19 B_wu B_wq
                      refine own_st (T' := T24) (F' := (mkF m 174 #[.val (.int x0), .val (.int x1), .val (.int x2), .val (.int x3), .val (.int x4), .val (.int b5), .val (.int b6), .val (.int b7), .val (.int b8), .val (.int (((x4.toUInt32 >>> ((4 : Int32) &&& 31).toUInt32).toInt32) &&& (3 : Int32))), .val (.int y10), .val (.int y11), .val (.ref b13), .val (.ref b19), .unset, .unset] [(.int (((x4.toUInt32 >>> ((4 : Int32) &&& 31).toUInt32).toInt32) &&& (3 : Int32)))])) (fun t k => XS.iload X24.here hx rfl (hb hby at_172) rfl k) ?_
                      refine own_st (T' := T24) (F' := (mkF m 175 #[.val (.int x0), .val (.int x1), .val (.int x2), .val (.int x3), .val (.int x4), .val (.int b5), .val (.int b6), .val (.int b7), .val (.int b8), .val (.int (((x4.toUInt32 >>> ((4 : Int32) &&& 31).toUInt32).toInt32) &&& (3 : Int32))), .val (.int y10), .val (.int y11), .val (.ref b13), .val (.ref b19), .unset, .unset] [(.int (1 : Int32)), (.int (((x4.toUInt32 >>> ((4 : Int32) &&& 31).toUInt32).toInt32) &&& (3 : Int32)))])) (fun t k => XS.iconst X24.here hx rfl (hb hby at_174) k) ?_
                      by_cases hc175_25 : (((x4.toUInt32 >>> ((4 : Int32) &&& 31).toUInt32).toInt32) &&& (3 : Int32)) = (1 : Int32)
                      · refine own_st (T' := T24) (F' := (mkF m 178 #[.val (.int x0), .val (.int x1), .val (.int x2), .val (.int x3), .val (.int x4), .val (.int b5), .val (.int b6), .val (.int b7), .val (.int b8), .val (.int (((x4.toUInt32 >>> ((4 : Int32) &&& 31).toUInt32).toInt32) &&& (3 : Int32))), .val (.int y10), .val (.int y11), .val (.ref b13), .val (.ref b19), .unset, .unset] [])) (fun t k => XS.icmpNo X24.here hx rfl (hb hby at_175) rfl (teq hc175_25).2 k) ?_
                        refine own_st (T' := T24) (F' := (mkF m 180 #[.val (.int x0), .val (.int x1), .val (.int x2), .val (.int x3), .val (.int x4), .val (.int b5), .val (.int b6), .val (.int b7), .val (.int b8), .val (.int (((x4.toUInt32 >>> ((4 : Int32) &&& 31).toUInt32).toInt32) &&& (3 : Int32))), .val (.int y10), .val (.int y11), .val (.ref b13), .val (.ref b19), .unset, .unset] [(.ref b13)])) (fun t k => XS.aload X24.here hx rfl (hb hby at_178) rfl rfl k) ?_
                        refine own_st (T' := T24) (F' := (mkF m 182 #[.val (.int x0), .val (.int x1), .val (.int x2), .val (.int x3), .val (.int x4), .val (.int b5), .val (.int b6), .val (.int b7), .val (.int b8), .val (.int (((x4.toUInt32 >>> ((4 : Int32) &&& 31).toUInt32).toInt32) &&& (3 : Int32))), .val (.int y10), .val (.int y11), .val (.ref b13), .val (.ref b19), .val (.ref b13), .unset] [])) (fun t k => XS.astore X24.here hx rfl (hb hby at_180) rfl rfl (l' := #[.val (.int x0), .val (.int x1), .val (.int x2), .val (.int x3), .val (.int x4), .val (.int b5), .val (.int b6), .val (.int b7), .val (.int b8), .val (.int (((x4.toUInt32 >>> ((4 : Int32) &&& 31).toUInt32).toInt32) &&& (3 : Int32))), .val (.int y10), .val (.int y11), .val (.ref b13), .val (.ref b19), .val (.ref b13), .unset]) rfl k) ?_
                        refine own_st (T' := T24) (F' := (mkF m 183 #[.val (.int x0), .val (.int x1), .val (.int x2), .val (.int x3), .val (.int x4), .val (.int b5), .val (.int b6), .val (.int b7), .val (.int b8), .val (.int (((x4.toUInt32 >>> ((4 : Int32) &&& 31).toUInt32).toInt32) &&& (3 : Int32))), .val (.int y10), .val (.int y11), .val (.ref b13), .val (.ref b19), .val (.ref b13), .unset] [(.int (1 : Int32))])) (fun t k => XS.iconst X24.here hx rfl (hb hby at_182) k) ?_
                        refine own_st (T' := T24) (F' := (mkF m 185 #[.val (.int x0), .val (.int x1), .val (.int x2), .val (.int x3), .val (.int x4), .val (.int b5), .val (.int b6), .val (.int b7), .val (.int b8), .val (.int (((x4.toUInt32 >>> ((4 : Int32) &&& 31).toUInt32).toInt32) &&& (3 : Int32))), .val (.int y10), .val (.int y11), .val (.ref b13), .val (.ref b19), .val (.ref b13), .val (.int (1 : Int32))] [])) (fun t k => XS.istore X24.here hx rfl (hb hby at_183) rfl (l' := #[.val (.int x0), .val (.int x1), .val (.int x2), .val (.int x3), .val (.int x4), .val (.int b5), .val (.int b6), .val (.int b7), .val (.int b8), .val (.int (((x4.toUInt32 >>> ((4 : Int32) &&& 31).toUInt32).toInt32) &&& (3 : Int32))), .val (.int y10), .val (.int y11), .val (.ref b13), .val (.ref b19), .val (.ref b13), .val (.int (1 : Int32))]) rfl k) ?_
                        refine own_st (T' := T24) (F' := (mkF m 259 #[.val (.int x0), .val (.int x1), .val (.int x2), .val (.int x3), .val (.int x4), .val (.int b5), .val (.int b6), .val (.int b7), .val (.int b8), .val (.int (((x4.toUInt32 >>> ((4 : Int32) &&& 31).toUInt32).toInt32) &&& (3 : Int32))), .val (.int y10), .val (.int y11), .val (.ref b13), .val (.ref b19), .val (.ref b13), .val (.int (1 : Int32))] [])) (fun t k => XS.goto X24.here hx rfl (pc0 := 185) (pc' := 259) rfl (hb hby at_185) (by decide) (by decide) k) ?_
                        refine own_st (T' := T24) (F' := (mkF m 261 #[.val (.int x0), .val (.int x1), .val (.int x2), .val (.int x3), .val (.int x4), .val (.int b5), .val (.int b6), .val (.int b7), .val (.int b8), .val (.int (((x4.toUInt32 >>> ((4 : Int32) &&& 31).toUInt32).toInt32) &&& (3 : Int32))), .val (.int y10), .val (.int y11), .val (.ref b13), .val (.ref b19), .val (.ref b13), .val (.int (1 : Int32))] [(.ref b13)])) (fun t k => XS.aload X24.here hx rfl (hb hby at_259) rfl rfl k) ?_
                        refine own_st (T' := T24) (F' := (mkF m 263 #[.val (.int x0), .val (.int x1), .val (.int x2), .val (.int x3), .val (.int x4), .val (.int b5), .val (.int b6), .val (.int b7), .val (.int b8), .val (.int (((x4.toUInt32 >>> ((4 : Int32) &&& 31).toUInt32).toInt32) &&& (3 : Int32))), .val (.int y10), .val (.int y11), .val (.ref b13), .val (.ref b19), .val (.ref b13), .val (.int (1 : Int32))] [(.ref b13), (.ref b13)])) (fun t k => XS.aload X24.here hx rfl (hb hby at_261) rfl rfl k) ?_
                        obtain ⟨cq26, kq26, q26a, q26b, q26c⟩ := isOf hZ e24 E_b13
                        obtain ⟨v26, _, ⟨T26, L26, k26, n26⟩, -, X26, ⟨Lc26, hQ26, l26, y26, z26⟩, st26⟩ := X24.virtualBack hx (y := (⟨"com/example/entigate/entigate/sample/PlaylistTrackId", "equals", "(Ljava/lang/Object;)Z"⟩ : MethodName)) (z := (⟨"com/example/entigate/entigate/sample/PlaylistTrackId", "equals", "(Ljava/lang/Object;)Z"⟩ : MethodName)) hown (mvT hZ (hw _ (List.mem_of_getElem? (i := 34) rfl))) (mvT hZ (hw _ (List.mem_of_getElem? (i := 35) rfl))) (notFace_of_selects (args := #[]) (mvT hZ (hw _ (List.mem_of_getElem? (i := 37) rfl)))) (mvT hZ (hw _ (List.mem_of_getElem? (i := 37) rfl))) (mvT hZ (hw _ (List.mem_of_getElem? (i := 36) rfl))) (by decide) (backOf (W := 0) (rmE_S l Z a0 CX [] b13 b13 wt wt wp wp b5 b5 b6 b6 x0 x0 x1 x1 (1 : Int32) h24 O E_b13 F_trackId_b13 B_wt F_trackId_b13 B_wt F_playlistId_b13 B_wp F_playlistId_b13 B_wp (by simp [own_eqv_self])) hZ (hw _ (List.mem_of_getElem? (i := 38) rfl)) (hw _ (List.mem_of_getElem? (i := 2) rfl)) (by decide) (by decide)) q26a q26c (g := (mkF m 263 #[.val (.int x0), .val (.int x1), .val (.int x2), .val (.int x3), .val (.int x4), .val (.int b5), .val (.int b6), .val (.int b7), .val (.int b8), .val (.int (((x4.toUInt32 >>> ((4 : Int32) &&& 31).toUInt32).toInt32) &&& (3 : Int32))), .val (.int y10), .val (.int y11), .val (.ref b13), .val (.ref b19), .val (.ref b13), .val (.int (1 : Int32))] [(.ref b13), (.ref b13)])) rfl (by rw [hml]; rfl) (Steps.refl _) (argsL := [(.ref b13)]) (rest := []) (lenOf pd_3 rfl) rfl (by show 2 * 0 + _ ≤ _; exact Nat.le_of_eq rfl) (hb hby at_263) (fun _ _ => ⟨rfl, e24, (by decide : 6 + 0 ≤ _), (by decide : 8 + 0 ≤ _)⟩)
                        dsimp only [Pt.U, Pt.locs, Pt.cells, Pt.slots] at X26 l26 y26 z26 st26 hQ26
                        subst l26 y26 z26
                        obtain ⟨rfl, N26q, e26⟩ := hQ26
                        have N := Fr.app N N26q
                        refine own_tr (T' := T26) (F' := (mkF m 266 #[.val (.int x0), .val (.int x1), .val (.int x2), .val (.int x3), .val (.int x4), .val (.int b5), .val (.int b6), .val (.int b7), .val (.int b8), .val (.int (((x4.toUInt32 >>> ((4 : Int32) &&& 31).toUInt32).toInt32) &&& (3 : Int32))), .val (.int y10), .val (.int y11), .val (.ref b13), .val (.ref b19), .val (.ref b13), .val (.int (1 : Int32))] [(.int (1 : Int32))])) st26 ?_
                        refine own_st (T' := T26) (F' := (mkF m 268 #[.val (.int x0), .val (.int x1), .val (.int x2), .val (.int x3), .val (.int x4), .val (.int b5), .val (.int b6), .val (.int b7), .val (.int b8), .val (.int (((x4.toUInt32 >>> ((4 : Int32) &&& 31).toUInt32).toInt32) &&& (3 : Int32))), .val (.int y10), .val (.int y11), .val (.ref b13), .val (.ref b19), .val (.ref b13), .val (.int (1 : Int32))] [(.int (1 : Int32)), (.int (1 : Int32))])) (fun t k => XS.iload X26.here hx rfl (hb hby at_266) rfl k) ?_
                        refine own_st (T' := T26) (F' := (mkF m 271 #[.val (.int x0), .val (.int x1), .val (.int x2), .val (.int x3), .val (.int x4), .val (.int b5), .val (.int b6), .val (.int b7), .val (.int b8), .val (.int (((x4.toUInt32 >>> ((4 : Int32) &&& 31).toUInt32).toInt32) &&& (3 : Int32))), .val (.int y10), .val (.int y11), .val (.ref b13), .val (.ref b19), .val (.ref b13), .val (.int (1 : Int32))] [])) (fun t k => XS.icmpNo X26.here hx rfl (hb hby at_268) rfl (teq rfl).2 k) ?_
                        refine own_st (T' := T26) (F' := (mkF m 272 #[.val (.int x0), .val (.int x1), .val (.int x2), .val (.int x3), .val (.int x4), .val (.int b5), .val (.int b6), .val (.int b7), .val (.int b8), .val (.int (((x4.toUInt32 >>> ((4 : Int32) &&& 31).toUInt32).toInt32) &&& (3 : Int32))), .val (.int y10), .val (.int y11), .val (.ref b13), .val (.ref b19), .val (.ref b13), .val (.int (1 : Int32))] [(.int (1 : Int32))])) (fun t k => XS.iconst X26.here hx rfl (hb hby at_271) k) ?_
                        refine own_st (T' := T26) (F' := (mkF m 276 #[.val (.int x0), .val (.int x1), .val (.int x2), .val (.int x3), .val (.int x4), .val (.int b5), .val (.int b6), .val (.int b7), .val (.int b8), .val (.int (((x4.toUInt32 >>> ((4 : Int32) &&& 31).toUInt32).toInt32) &&& (3 : Int32))), .val (.int y10), .val (.int y11), .val (.ref b13), .val (.ref b19), .val (.ref b13), .val (.int (1 : Int32))] [(.int (1 : Int32))])) (fun t k => XS.goto X26.here hx rfl (pc0 := 272) (pc' := 276) rfl (hb hby at_272) (by decide) (by decide) k) ?_
                        exact own_retN X26 hx (t := .boolean) Bd.returns (by simp) (by decide) (hb hby at_276) hlk (by show Q0 Z _ T26.heap _; rw [e26]; exact ⟨rfl, N⟩) (by decide) (by decide)
                      · refine own_st (T' := T24) (F' := (mkF m 188 #[.val (.int x0), .val (.int x1), .val (.int x2), .val (.int x3), .val (.int x4), .val (.int b5), .val (.int b6), .val (.int b7), .val (.int b8), .val (.int (((x4.toUInt32 >>> ((4 : Int32) &&& 31).toUInt32).toInt32) &&& (3 : Int32))), .val (.int y10), .val (.int y11), .val (.ref b13), .val (.ref b19), .unset, .unset] [])) (fun t k => XS.icmpYes X24.here hx rfl (pc0 := 175) (pc' := 188) rfl (hb hby at_175) rfl (feq hc175_25).2 (by decide) (by decide) k) ?_
                        refine own_st (T' := T24) (F' := (mkF m 190 #[.val (.int x0), .val (.int x1), .val (.int x2), .val (.int x3), .val (.int x4), .val (.int b5), .val (.int b6), .val (.int b7), .val (.int b8), .val (.int (((x4.toUInt32 >>> ((4 : Int32) &&& 31).toUInt32).toInt32) &&& (3 : Int32))), .val (.int y10), .val (.int y11), .val (.ref b13), .val (.ref b19), .unset, .unset] [(.int (((x4.toUInt32 >>> ((4 : Int32) &&& 31).toUInt32).toInt32) &&& (3 : Int32)))])) (fun t k => XS.iload X24.here hx rfl (hb hby at_188) rfl k) ?_
                        refine own_st (T' := T24) (F' := (mkF m 191 #[.val (.int x0), .val (.int x1), .val (.int x2), .val (.int x3), .val (.int x4), .val (.int b5), .val (.int b6), .val (.int b7), .val (.int b8), .val (.int (((x4.toUInt32 >>> ((4 : Int32) &&& 31).toUInt32).toInt32) &&& (3 : Int32))), .val (.int y10), .val (.int y11), .val (.ref b13), .val (.ref b19), .unset, .unset] [(.int (2 : Int32)), (.int (((x4.toUInt32 >>> ((4 : Int32) &&& 31).toUInt32).toInt32) &&& (3 : Int32)))])) (fun t k => XS.iconst X24.here hx rfl (hb hby at_190) k) ?_
                        by_cases hc191_27 : (((x4.toUInt32 >>> ((4 : Int32) &&& 31).toUInt32).toInt32) &&& (3 : Int32)) = (2 : Int32)
                        · refine own_st (T' := T24) (F' := (mkF m 194 #[.val (.int x0), .val (.int x1), .val (.int x2), .val (.int x3), .val (.int x4), .val (.int b5), .val (.int b6), .val (.int b7), .val (.int b8), .val (.int (((x4.toUInt32 >>> ((4 : Int32) &&& 31).toUInt32).toInt32) &&& (3 : Int32))), .val (.int y10), .val (.int y11), .val (.ref b13), .val (.ref b19), .unset, .unset] [])) (fun t k => XS.icmpNo X24.here hx rfl (hb hby at_191) rfl (teq hc191_27).2 k) ?_
                          refine own_st (T' := T24) (F' := (mkF m 195 #[.val (.int x0), .val (.int x1), .val (.int x2), .val (.int x3), .val (.int x4), .val (.int b5), .val (.int b6), .val (.int b7), .val (.int b8), .val (.int (((x4.toUInt32 >>> ((4 : Int32) &&& 31).toUInt32).toInt32) &&& (3 : Int32))), .val (.int y10), .val (.int y11), .val (.ref b13), .val (.ref b19), .unset, .unset] [.null])) (fun t k => XS.aconstNull X24.here hx rfl (hb hby at_194) k) ?_
                          refine own_st (T' := T24) (F' := (mkF m 197 #[.val (.int x0), .val (.int x1), .val (.int x2), .val (.int x3), .val (.int x4), .val (.int b5), .val (.int b6), .val (.int b7), .val (.int b8), .val (.int (((x4.toUInt32 >>> ((4 : Int32) &&& 31).toUInt32).toInt32) &&& (3 : Int32))), .val (.int y10), .val (.int y11), .val (.ref b13), .val (.ref b19), .val .null, .unset] [])) (fun t k => XS.astore X24.here hx rfl (hb hby at_195) rfl rfl (l' := #[.val (.int x0), .val (.int x1), .val (.int x2), .val (.int x3), .val (.int x4), .val (.int b5), .val (.int b6), .val (.int b7), .val (.int b8), .val (.int (((x4.toUInt32 >>> ((4 : Int32) &&& 31).toUInt32).toInt32) &&& (3 : Int32))), .val (.int y10), .val (.int y11), .val (.ref b13), .val (.ref b19), .val .null, .unset]) rfl k) ?_
                          refine own_st (T' := T24) (F' := (mkF m 198 #[.val (.int x0), .val (.int x1), .val (.int x2), .val (.int x3), .val (.int x4), .val (.int b5), .val (.int b6), .val (.int b7), .val (.int b8), .val (.int (((x4.toUInt32 >>> ((4 : Int32) &&& 31).toUInt32).toInt32) &&& (3 : Int32))), .val (.int y10), .val (.int y11), .val (.ref b13), .val (.ref b19), .val .null, .unset] [(.int (0 : Int32))])) (fun t k => XS.iconst X24.here hx rfl (hb hby at_197) k) ?_
                          refine own_st (T' := T24) (F' := (mkF m 200 #[.val (.int x0), .val (.int x1), .val (.int x2), .val (.int x3), .val (.int x4), .val (.int b5), .val (.int b6), .val (.int b7), .val (.int b8), .val (.int (((x4.toUInt32 >>> ((4 : Int32) &&& 31).toUInt32).toInt32) &&& (3 : Int32))), .val (.int y10), .val (.int y11), .val (.ref b13), .val (.ref b19), .val .null, .val (.int (0 : Int32))] [])) (fun t k => XS.istore X24.here hx rfl (hb hby at_198) rfl (l' := #[.val (.int x0), .val (.int x1), .val (.int x2), .val (.int x3), .val (.int x4), .val (.int b5), .val (.int b6), .val (.int b7), .val (.int b8), .val (.int (((x4.toUInt32 >>> ((4 : Int32) &&& 31).toUInt32).toInt32) &&& (3 : Int32))), .val (.int y10), .val (.int y11), .val (.ref b13), .val (.ref b19), .val .null, .val (.int (0 : Int32))]) rfl k) ?_
                          refine own_st (T' := T24) (F' := (mkF m 259 #[.val (.int x0), .val (.int x1), .val (.int x2), .val (.int x3), .val (.int x4), .val (.int b5), .val (.int b6), .val (.int b7), .val (.int b8), .val (.int (((x4.toUInt32 >>> ((4 : Int32) &&& 31).toUInt32).toInt32) &&& (3 : Int32))), .val (.int y10), .val (.int y11), .val (.ref b13), .val (.ref b19), .val .null, .val (.int (0 : Int32))] [])) (fun t k => XS.goto X24.here hx rfl (pc0 := 200) (pc' := 259) rfl (hb hby at_200) (by decide) (by decide) k) ?_
                          refine own_st (T' := T24) (F' := (mkF m 261 #[.val (.int x0), .val (.int x1), .val (.int x2), .val (.int x3), .val (.int x4), .val (.int b5), .val (.int b6), .val (.int b7), .val (.int b8), .val (.int (((x4.toUInt32 >>> ((4 : Int32) &&& 31).toUInt32).toInt32) &&& (3 : Int32))), .val (.int y10), .val (.int y11), .val (.ref b13), .val (.ref b19), .val .null, .val (.int (0 : Int32))] [(.ref b13)])) (fun t k => XS.aload X24.here hx rfl (hb hby at_259) rfl rfl k) ?_
                          refine own_st (T' := T24) (F' := (mkF m 263 #[.val (.int x0), .val (.int x1), .val (.int x2), .val (.int x3), .val (.int x4), .val (.int b5), .val (.int b6), .val (.int b7), .val (.int b8), .val (.int (((x4.toUInt32 >>> ((4 : Int32) &&& 31).toUInt32).toInt32) &&& (3 : Int32))), .val (.int y10), .val (.int y11), .val (.ref b13), .val (.ref b19), .val .null, .val (.int (0 : Int32))] [.null, (.ref b13)])) (fun t k => XS.aload X24.here hx rfl (hb hby at_261) rfl rfl k) ?_
                          obtain ⟨cq28, kq28, q28a, q28b, q28c⟩ := isOf hZ e24 E_b13
                          obtain ⟨v28, _, ⟨T28, L28, k28, n28⟩, -, X28, ⟨Lc28, hQ28, l28, y28, z28⟩, st28⟩ := X24.virtualBack hx (y := (⟨"com/example/entigate/entigate/sample/PlaylistTrackId", "equals", "(Ljava/lang/Object;)Z"⟩ : MethodName)) (z := (⟨"com/example/entigate/entigate/sample/PlaylistTrackId", "equals", "(Ljava/lang/Object;)Z"⟩ : MethodName)) hown (mvT hZ (hw _ (List.mem_of_getElem? (i := 34) rfl))) (mvT hZ (hw _ (List.mem_of_getElem? (i := 35) rfl))) (notFace_of_selects (args := #[]) (mvT hZ (hw _ (List.mem_of_getElem? (i := 37) rfl)))) (mvT hZ (hw _ (List.mem_of_getElem? (i := 37) rfl))) (mvT hZ (hw _ (List.mem_of_getElem? (i := 36) rfl))) (by decide) (backOf (W := 0) (rmE_N l Z a0 CX [] b13 h24 O) hZ (hw _ (List.mem_of_getElem? (i := 38) rfl)) (hw _ (List.mem_of_getElem? (i := 2) rfl)) (by decide) (by decide)) q28a q28c (g := (mkF m 263 #[.val (.int x0), .val (.int x1), .val (.int x2), .val (.int x3), .val (.int x4), .val (.int b5), .val (.int b6), .val (.int b7), .val (.int b8), .val (.int (((x4.toUInt32 >>> ((4 : Int32) &&& 31).toUInt32).toInt32) &&& (3 : Int32))), .val (.int y10), .val (.int y11), .val (.ref b13), .val (.ref b19), .val .null, .val (.int (0 : Int32))] [.null, (.ref b13)])) rfl (by rw [hml]; rfl) (Steps.refl _) (argsL := [.null]) (rest := []) (lenOf pd_3 rfl) rfl (by show 2 * 0 + _ ≤ _; exact Nat.le_of_eq rfl) (hb hby at_263) (fun _ _ => ⟨rfl, e24, (by decide : 6 + 0 ≤ _), (by decide : 8 + 0 ≤ _)⟩)
                          dsimp only [Pt.U, Pt.locs, Pt.cells, Pt.slots] at X28 l28 y28 z28 st28 hQ28
                          subst l28 y28 z28
                          obtain ⟨rfl, N28q, e28⟩ := hQ28
                          have N := Fr.app N N28q
                          refine own_tr (T' := T28) (F' := (mkF m 266 #[.val (.int x0), .val (.int x1), .val (.int x2), .val (.int x3), .val (.int x4), .val (.int b5), .val (.int b6), .val (.int b7), .val (.int b8), .val (.int (((x4.toUInt32 >>> ((4 : Int32) &&& 31).toUInt32).toInt32) &&& (3 : Int32))), .val (.int y10), .val (.int y11), .val (.ref b13), .val (.ref b19), .val .null, .val (.int (0 : Int32))] [(.int (0 : Int32))])) st28 ?_
                          refine own_st (T' := T28) (F' := (mkF m 268 #[.val (.int x0), .val (.int x1), .val (.int x2), .val (.int x3), .val (.int x4), .val (.int b5), .val (.int b6), .val (.int b7), .val (.int b8), .val (.int (((x4.toUInt32 >>> ((4 : Int32) &&& 31).toUInt32).toInt32) &&& (3 : Int32))), .val (.int y10), .val (.int y11), .val (.ref b13), .val (.ref b19), .val .null, .val (.int (0 : Int32))] [(.int (0 : Int32)), (.int (0 : Int32))])) (fun t k => XS.iload X28.here hx rfl (hb hby at_266) rfl k) ?_
                          refine own_st (T' := T28) (F' := (mkF m 271 #[.val (.int x0), .val (.int x1), .val (.int x2), .val (.int x3), .val (.int x4), .val (.int b5), .val (.int b6), .val (.int b7), .val (.int b8), .val (.int (((x4.toUInt32 >>> ((4 : Int32) &&& 31).toUInt32).toInt32) &&& (3 : Int32))), .val (.int y10), .val (.int y11), .val (.ref b13), .val (.ref b19), .val .null, .val (.int (0 : Int32))] [])) (fun t k => XS.icmpNo X28.here hx rfl (hb hby at_268) rfl (teq rfl).2 k) ?_
                          refine own_st (T' := T28) (F' := (mkF m 272 #[.val (.int x0), .val (.int x1), .val (.int x2), .val (.int x3), .val (.int x4), .val (.int b5), .val (.int b6), .val (.int b7), .val (.int b8), .val (.int (((x4.toUInt32 >>> ((4 : Int32) &&& 31).toUInt32).toInt32) &&& (3 : Int32))), .val (.int y10), .val (.int y11), .val (.ref b13), .val (.ref b19), .val .null, .val (.int (0 : Int32))] [(.int (1 : Int32))])) (fun t k => XS.iconst X28.here hx rfl (hb hby at_271) k) ?_
                          refine own_st (T' := T28) (F' := (mkF m 276 #[.val (.int x0), .val (.int x1), .val (.int x2), .val (.int x3), .val (.int x4), .val (.int b5), .val (.int b6), .val (.int b7), .val (.int b8), .val (.int (((x4.toUInt32 >>> ((4 : Int32) &&& 31).toUInt32).toInt32) &&& (3 : Int32))), .val (.int y10), .val (.int y11), .val (.ref b13), .val (.ref b19), .val .null, .val (.int (0 : Int32))] [(.int (1 : Int32))])) (fun t k => XS.goto X28.here hx rfl (pc0 := 272) (pc' := 276) rfl (hb hby at_272) (by decide) (by decide) k) ?_
                          exact own_retN X28 hx (t := .boolean) Bd.returns (by simp) (by decide) (hb hby at_276) hlk (by show Q0 Z _ T28.heap _; rw [e28]; exact ⟨rfl, N⟩) (by decide) (by decide)
                        · refine own_st (T' := T24) (F' := (mkF m 203 #[.val (.int x0), .val (.int x1), .val (.int x2), .val (.int x3), .val (.int x4), .val (.int b5), .val (.int b6), .val (.int b7), .val (.int b8), .val (.int (((x4.toUInt32 >>> ((4 : Int32) &&& 31).toUInt32).toInt32) &&& (3 : Int32))), .val (.int y10), .val (.int y11), .val (.ref b13), .val (.ref b19), .unset, .unset] [])) (fun t k => XS.icmpYes X24.here hx rfl (pc0 := 191) (pc' := 203) rfl (hb hby at_191) rfl (feq hc191_27).2 (by decide) (by decide) k) ?_
                          refine own_st (T' := T24) (F' := (mkF m 205 #[.val (.int x0), .val (.int x1), .val (.int x2), .val (.int x3), .val (.int x4), .val (.int b5), .val (.int b6), .val (.int b7), .val (.int b8), .val (.int (((x4.toUInt32 >>> ((4 : Int32) &&& 31).toUInt32).toInt32) &&& (3 : Int32))), .val (.int y10), .val (.int y11), .val (.ref b13), .val (.ref b19), .unset, .unset] [(.int (((x4.toUInt32 >>> ((4 : Int32) &&& 31).toUInt32).toInt32) &&& (3 : Int32)))])) (fun t k => XS.iload X24.here hx rfl (hb hby at_203) rfl k) ?_
                          refine own_st (T' := T24) (F' := (mkF m 206 #[.val (.int x0), .val (.int x1), .val (.int x2), .val (.int x3), .val (.int x4), .val (.int b5), .val (.int b6), .val (.int b7), .val (.int b8), .val (.int (((x4.toUInt32 >>> ((4 : Int32) &&& 31).toUInt32).toInt32) &&& (3 : Int32))), .val (.int y10), .val (.int y11), .val (.ref b13), .val (.ref b19), .unset, .unset] [(.int (3 : Int32)), (.int (((x4.toUInt32 >>> ((4 : Int32) &&& 31).toUInt32).toInt32) &&& (3 : Int32)))])) (fun t k => XS.iconst X24.here hx rfl (hb hby at_205) k) ?_
                          by_cases hc206_29 : (((x4.toUInt32 >>> ((4 : Int32) &&& 31).toUInt32).toInt32) &&& (3 : Int32)) = (3 : Int32)
                          · refine own_st (T' := T24) (F' := (mkF m 209 #[.val (.int x0), .val (.int x1), .val (.int x2), .val (.int x3), .val (.int x4), .val (.int b5), .val (.int b6), .val (.int b7), .val (.int b8), .val (.int (((x4.toUInt32 >>> ((4 : Int32) &&& 31).toUInt32).toInt32) &&& (3 : Int32))), .val (.int y10), .val (.int y11), .val (.ref b13), .val (.ref b19), .unset, .unset] [])) (fun t k => XS.icmpNo X24.here hx rfl (hb hby at_206) rfl (teq hc206_29).2 k) ?_
                            refine own_st (T' := T24) (F' := (mkF m 211 #[.val (.int x0), .val (.int x1), .val (.int x2), .val (.int x3), .val (.int x4), .val (.int b5), .val (.int b6), .val (.int b7), .val (.int b8), .val (.int (((x4.toUInt32 >>> ((4 : Int32) &&& 31).toUInt32).toInt32) &&& (3 : Int32))), .val (.int y10), .val (.int y11), .val (.ref b13), .val (.ref b19), .unset, .unset] [(.int y10)])) (fun t k => XS.iload X24.here hx rfl (hb hby at_209) rfl k) ?_
                            obtain ⟨v30, _, ⟨T30, L30, k30, n30⟩, -, X30, ⟨Lc30, hQ30, l30, y30, z30⟩, st30⟩ := Jvm.LawKit.callS X24 hx (y := (⟨"java/lang/Integer", "valueOf", "(I)Ljava/lang/Integer;"⟩ : MethodName)) hown (mvT hZ (hw _ (List.mem_of_getElem? (i := 9) rfl))) (mvT hZ (hw _ (List.mem_of_getElem? (i := 10) rfl))) (mvT hZ (hw _ (List.mem_of_getElem? (i := 11) rfl))) (mvT hZ (hw _ (List.mem_of_getElem? (i := 12) rfl))) (by decide) (backOf (W := 0) (rm3 l Z a0 CX [] y10 h24 O) hZ (hw _ (List.mem_of_getElem? (i := 12) rfl)) (hw _ (List.mem_of_getElem? (i := 11) rfl)) (by decide) (by decide)) (g := (mkF m 211 #[.val (.int x0), .val (.int x1), .val (.int x2), .val (.int x3), .val (.int x4), .val (.int b5), .val (.int b6), .val (.int b7), .val (.int b8), .val (.int (((x4.toUInt32 >>> ((4 : Int32) &&& 31).toUInt32).toInt32) &&& (3 : Int32))), .val (.int y10), .val (.int y11), .val (.ref b13), .val (.ref b19), .unset, .unset] [(.int y10)])) rfl (by rw [hml]; rfl) (argsL := [(.int y10)]) (rest := []) (lenOf pd_5 rfl) rfl (by show 2 * 0 + _ ≤ _; exact Nat.le_of_eq rfl) (hb hby at_211) (fun _ _ => ⟨rfl, e24, (by decide : 6 + 1 ≤ _), (by decide : 8 + 1 ≤ _)⟩)
                            dsimp only [Pt.U, Pt.locs, Pt.cells, Pt.slots] at X30 l30 y30 z30 st30 hQ30
                            subst l30 y30 z30
                            obtain ⟨r30, rfl, N30q, E30, X_r30, F_r30⟩ := hQ30
                            have N := Fr.app N N30q
                            have B_wt := B_wt.ext E30
                            have B_wp := B_wp.ext E30
                            have B_wu := B_wu.ext E30
                            have B_wq := B_wq.ext E30
                            have E_b13 := E_b13.ext E30
                            have F_trackId_b13 := F_trackId_b13.ext E30
                            have F_playlistId_b13 := F_playlistId_b13.ext E30
                            have E_b19 := E_b19.ext E30
                            have F_trackId_b19 := F_trackId_b19.ext E30
                            have F_playlistId_b19 := F_playlistId_b19.ext E30
                            have O := own_ext_trans O E30
                            have B_r30 : own_Bx Z T30.heap (.ref r30) 0 y10 := Or.inr ⟨rfl, r30, rfl, X_r30, F_r30⟩
                            refine own_st (T' := T30) (F' := (mkF m 214 #[.val (.int x0), .val (.int x1), .val (.int x2), .val (.int x3), .val (.int x4), .val (.int b5), .val (.int b6), .val (.int b7), .val (.int b8), .val (.int (((x4.toUInt32 >>> ((4 : Int32) &&& 31).toUInt32).toInt32) &&& (3 : Int32))), .val (.int y10), .val (.int y11), .val (.ref b13), .val (.ref b19), .unset, .unset] [(.ref r30)])) st30 ?_
                            refine own_st (T' := T30) (F' := (mkF m 216 #[.val (.int x0), .val (.int x1), .val (.int x2), .val (.int x3), .val (.int x4), .val (.int b5), .val (.int b6), .val (.int b7), .val (.int b8), .val (.int (((x4.toUInt32 >>> ((4 : Int32) &&& 31).toUInt32).toInt32) &&& (3 : Int32))), .val (.int y10), .val (.int y11), .val (.ref b13), .val (.ref b19), .val (.ref r30), .unset] [])) (fun t k => XS.astore X30.here hx rfl (hb hby at_214) rfl rfl (l' := #[.val (.int x0), .val (.int x1), .val (.int x2), .val (.int x3), .val (.int x4), .val (.int b5), .val (.int b6), .val (.int b7), .val (.int b8), .val (.int (((x4.toUInt32 >>> ((4 : Int32) &&& 31).toUInt32).toInt32) &&& (3 : Int32))), .val (.int y10), .val (.int y11), .val (.ref b13), .val (.ref b19), .val (.ref r30), .unset]) rfl k) ?_
                            refine own_st (T' := T30) (F' := (mkF m 217 #[.val (.int x0), .val (.int x1), .val (.int x2), .val (.int x3), .val (.int x4), .val (.int b5), .val (.int b6), .val (.int b7), .val (.int b8), .val (.int (((x4.toUInt32 >>> ((4 : Int32) &&& 31).toUInt32).toInt32) &&& (3 : Int32))), .val (.int y10), .val (.int y11), .val (.ref b13), .val (.ref b19), .val (.ref r30), .unset] [(.int (0 : Int32))])) (fun t k => XS.iconst X30.here hx rfl (hb hby at_216) k) ?_
                            refine own_st (T' := T30) (F' := (mkF m 219 #[.val (.int x0), .val (.int x1), .val (.int x2), .val (.int x3), .val (.int x4), .val (.int b5), .val (.int b6), .val (.int b7), .val (.int b8), .val (.int (((x4.toUInt32 >>> ((4 : Int32) &&& 31).toUInt32).toInt32) &&& (3 : Int32))), .val (.int y10), .val (.int y11), .val (.ref b13), .val (.ref b19), .val (.ref r30), .val (.int (0 : Int32))] [])) (fun t k => XS.istore X30.here hx rfl (hb hby at_217) rfl (l' := #[.val (.int x0), .val (.int x1), .val (.int x2), .val (.int x3), .val (.int x4), .val (.int b5), .val (.int b6), .val (.int b7), .val (.int b8), .val (.int (((x4.toUInt32 >>> ((4 : Int32) &&& 31).toUInt32).toInt32) &&& (3 : Int32))), .val (.int y10), .val (.int y11), .val (.ref b13), .val (.ref b19), .val (.ref r30), .val (.int (0 : Int32))]) rfl k) ?_
                            refine own_st (T' := T30) (F' := (mkF m 259 #[.val (.int x0), .val (.int x1), .val (.int x2), .val (.int x3), .val (.int x4), .val (.int b5), .val (.int b6), .val (.int b7), .val (.int b8), .val (.int (((x4.toUInt32 >>> ((4 : Int32) &&& 31).toUInt32).toInt32) &&& (3 : Int32))), .val (.int y10), .val (.int y11), .val (.ref b13), .val (.ref b19), .val (.ref r30), .val (.int (0 : Int32))] [])) (fun t k => XS.goto X30.here hx rfl (pc0 := 219) (pc' := 259) rfl (hb hby at_219) (by decide) (by decide) k) ?_
                            refine own_st (T' := T30) (F' := (mkF m 261 #[.val (.int x0), .val (.int x1), .val (.int x2), .val (.int x3), .val (.int x4), .val (.int b5), .val (.int b6), .val (.int b7), .val (.int b8), .val (.int (((x4.toUInt32 >>> ((4 : Int32) &&& 31).toUInt32).toInt32) &&& (3 : Int32))), .val (.int y10), .val (.int y11), .val (.ref b13), .val (.ref b19), .val (.ref r30), .val (.int (0 : Int32))] [(.ref b13)])) (fun t k => XS.aload X30.here hx rfl (hb hby at_259) rfl rfl k) ?_
                            refine own_st (T' := T30) (F' := (mkF m 263 #[.val (.int x0), .val (.int x1), .val (.int x2), .val (.int x3), .val (.int x4), .val (.int b5), .val (.int b6), .val (.int b7), .val (.int b8), .val (.int (((x4.toUInt32 >>> ((4 : Int32) &&& 31).toUInt32).toInt32) &&& (3 : Int32))), .val (.int y10), .val (.int y11), .val (.ref b13), .val (.ref b19), .val (.ref r30), .val (.int (0 : Int32))] [(.ref r30), (.ref b13)])) (fun t k => XS.aload X30.here hx rfl (hb hby at_261) rfl rfl k) ?_
                            obtain ⟨cq31, kq31, q31a, q31b, q31c⟩ := isOf hZ rfl E_b13
                            obtain ⟨v31, _, ⟨T31, L31, k31, n31⟩, -, X31, ⟨Lc31, hQ31, l31, y31, z31⟩, st31⟩ := X30.virtualBack hx (y := (⟨"com/example/entigate/entigate/sample/PlaylistTrackId", "equals", "(Ljava/lang/Object;)Z"⟩ : MethodName)) (z := (⟨"com/example/entigate/entigate/sample/PlaylistTrackId", "equals", "(Ljava/lang/Object;)Z"⟩ : MethodName)) hown (mvT hZ (hw _ (List.mem_of_getElem? (i := 34) rfl))) (mvT hZ (hw _ (List.mem_of_getElem? (i := 35) rfl))) (notFace_of_selects (args := #[]) (mvT hZ (hw _ (List.mem_of_getElem? (i := 37) rfl)))) (mvT hZ (hw _ (List.mem_of_getElem? (i := 37) rfl))) (mvT hZ (hw _ (List.mem_of_getElem? (i := 36) rfl))) (by decide) (backOf (W := 0) (rmE_I l Z a0 CX [] b13 r30 T30.heap O X_r30) hZ (hw _ (List.mem_of_getElem? (i := 38) rfl)) (hw _ (List.mem_of_getElem? (i := 2) rfl)) (by decide) (by decide)) q31a q31c (g := (mkF m 263 #[.val (.int x0), .val (.int x1), .val (.int x2), .val (.int x3), .val (.int x4), .val (.int b5), .val (.int b6), .val (.int b7), .val (.int b8), .val (.int (((x4.toUInt32 >>> ((4 : Int32) &&& 31).toUInt32).toInt32) &&& (3 : Int32))), .val (.int y10), .val (.int y11), .val (.ref b13), .val (.ref b19), .val (.ref r30), .val (.int (0 : Int32))] [(.ref r30), (.ref b13)])) rfl (by rw [hml]; rfl) (Steps.refl _) (argsL := [(.ref r30)]) (rest := []) (lenOf pd_3 rfl) rfl (by show 2 * 0 + _ ≤ _; exact Nat.le_of_eq rfl) (hb hby at_263) (fun _ _ => ⟨rfl, rfl, (by decide : 7 + 0 ≤ _), (by decide : 9 + 0 ≤ _)⟩)
                            dsimp only [Pt.U, Pt.locs, Pt.cells, Pt.slots] at X31 l31 y31 z31 st31 hQ31
                            subst l31 y31 z31
                            obtain ⟨rfl, N31q, e31⟩ := hQ31
                            have N := Fr.app N N31q
                            refine own_tr (T' := T31) (F' := (mkF m 266 #[.val (.int x0), .val (.int x1), .val (.int x2), .val (.int x3), .val (.int x4), .val (.int b5), .val (.int b6), .val (.int b7), .val (.int b8), .val (.int (((x4.toUInt32 >>> ((4 : Int32) &&& 31).toUInt32).toInt32) &&& (3 : Int32))), .val (.int y10), .val (.int y11), .val (.ref b13), .val (.ref b19), .val (.ref r30), .val (.int (0 : Int32))] [(.int (0 : Int32))])) st31 ?_
                            refine own_st (T' := T31) (F' := (mkF m 268 #[.val (.int x0), .val (.int x1), .val (.int x2), .val (.int x3), .val (.int x4), .val (.int b5), .val (.int b6), .val (.int b7), .val (.int b8), .val (.int (((x4.toUInt32 >>> ((4 : Int32) &&& 31).toUInt32).toInt32) &&& (3 : Int32))), .val (.int y10), .val (.int y11), .val (.ref b13), .val (.ref b19), .val (.ref r30), .val (.int (0 : Int32))] [(.int (0 : Int32)), (.int (0 : Int32))])) (fun t k => XS.iload X31.here hx rfl (hb hby at_266) rfl k) ?_
                            refine own_st (T' := T31) (F' := (mkF m 271 #[.val (.int x0), .val (.int x1), .val (.int x2), .val (.int x3), .val (.int x4), .val (.int b5), .val (.int b6), .val (.int b7), .val (.int b8), .val (.int (((x4.toUInt32 >>> ((4 : Int32) &&& 31).toUInt32).toInt32) &&& (3 : Int32))), .val (.int y10), .val (.int y11), .val (.ref b13), .val (.ref b19), .val (.ref r30), .val (.int (0 : Int32))] [])) (fun t k => XS.icmpNo X31.here hx rfl (hb hby at_268) rfl (teq rfl).2 k) ?_
                            refine own_st (T' := T31) (F' := (mkF m 272 #[.val (.int x0), .val (.int x1), .val (.int x2), .val (.int x3), .val (.int x4), .val (.int b5), .val (.int b6), .val (.int b7), .val (.int b8), .val (.int (((x4.toUInt32 >>> ((4 : Int32) &&& 31).toUInt32).toInt32) &&& (3 : Int32))), .val (.int y10), .val (.int y11), .val (.ref b13), .val (.ref b19), .val (.ref r30), .val (.int (0 : Int32))] [(.int (1 : Int32))])) (fun t k => XS.iconst X31.here hx rfl (hb hby at_271) k) ?_
                            refine own_st (T' := T31) (F' := (mkF m 276 #[.val (.int x0), .val (.int x1), .val (.int x2), .val (.int x3), .val (.int x4), .val (.int b5), .val (.int b6), .val (.int b7), .val (.int b8), .val (.int (((x4.toUInt32 >>> ((4 : Int32) &&& 31).toUInt32).toInt32) &&& (3 : Int32))), .val (.int y10), .val (.int y11), .val (.ref b13), .val (.ref b19), .val (.ref r30), .val (.int (0 : Int32))] [(.int (1 : Int32))])) (fun t k => XS.goto X31.here hx rfl (pc0 := 272) (pc' := 276) rfl (hb hby at_272) (by decide) (by decide) k) ?_
                            exact own_retN X31 hx (t := .boolean) Bd.returns (by simp) (by decide) (hb hby at_276) hlk (by show Q0 Z _ T31.heap _; rw [e31]; exact ⟨rfl, N⟩) (by decide) (by decide)
                          · refine own_st (T' := T24) (F' := (mkF m 222 #[.val (.int x0), .val (.int x1), .val (.int x2), .val (.int x3), .val (.int x4), .val (.int b5), .val (.int b6), .val (.int b7), .val (.int b8), .val (.int (((x4.toUInt32 >>> ((4 : Int32) &&& 31).toUInt32).toInt32) &&& (3 : Int32))), .val (.int y10), .val (.int y11), .val (.ref b13), .val (.ref b19), .unset, .unset] [])) (fun t k => XS.icmpYes X24.here hx rfl (pc0 := 206) (pc' := 222) rfl (hb hby at_206) rfl (feq hc206_29).2 (by decide) (by decide) k) ?_
                            refine own_st (T' := T24) (F' := (mkF m 224 #[.val (.int x0), .val (.int x1), .val (.int x2), .val (.int x3), .val (.int x4), .val (.int b5), .val (.int b6), .val (.int b7), .val (.int b8), .val (.int (((x4.toUInt32 >>> ((4 : Int32) &&& 31).toUInt32).toInt32) &&& (3 : Int32))), .val (.int y10), .val (.int y11), .val (.ref b13), .val (.ref b19), .unset, .unset] [(.ref b19)])) (fun t k => XS.aload X24.here hx rfl (hb hby at_222) rfl rfl k) ?_
                            refine own_st (T' := T24) (F' := (mkF m 226 #[.val (.int x0), .val (.int x1), .val (.int x2), .val (.int x3), .val (.int x4), .val (.int b5), .val (.int b6), .val (.int b7), .val (.int b8), .val (.int (((x4.toUInt32 >>> ((4 : Int32) &&& 31).toUInt32).toInt32) &&& (3 : Int32))), .val (.int y10), .val (.int y11), .val (.ref b13), .val (.ref b19), .val (.ref b19), .unset] [])) (fun t k => XS.astore X24.here hx rfl (hb hby at_224) rfl rfl (l' := #[.val (.int x0), .val (.int x1), .val (.int x2), .val (.int x3), .val (.int x4), .val (.int b5), .val (.int b6), .val (.int b7), .val (.int b8), .val (.int (((x4.toUInt32 >>> ((4 : Int32) &&& 31).toUInt32).toInt32) &&& (3 : Int32))), .val (.int y10), .val (.int y11), .val (.ref b13), .val (.ref b19), .val (.ref b19), .unset]) rfl k) ?_
                            refine own_st (T' := T24) (F' := (mkF m 228 #[.val (.int x0), .val (.int x1), .val (.int x2), .val (.int x3), .val (.int x4), .val (.int b5), .val (.int b6), .val (.int b7), .val (.int b8), .val (.int (((x4.toUInt32 >>> ((4 : Int32) &&& 31).toUInt32).toInt32) &&& (3 : Int32))), .val (.int y10), .val (.int y11), .val (.ref b13), .val (.ref b19), .val (.ref b19), .unset] [(.int b5)])) (fun t k => XS.iload X24.here hx rfl (hb hby at_226) rfl k) ?_
                            refine own_st (T' := T24) (F' := (mkF m 229 #[.val (.int x0), .val (.int x1), .val (.int x2), .val (.int x3), .val (.int x4), .val (.int b5), .val (.int b6), .val (.int b7), .val (.int b8), .val (.int (((x4.toUInt32 >>> ((4 : Int32) &&& 31).toUInt32).toInt32) &&& (3 : Int32))), .val (.int y10), .val (.int y11), .val (.ref b13), .val (.ref b19), .val (.ref b19), .unset] [(.int x0), (.int b5)])) (fun t k => XS.iloadN X24.here hx rfl (hb hby at_228) rfl k) ?_
                            refine own_st (T' := T24) (F' := (mkF m 231 #[.val (.int x0), .val (.int x1), .val (.int x2), .val (.int x3), .val (.int x4), .val (.int b5), .val (.int b6), .val (.int b7), .val (.int b8), .val (.int (((x4.toUInt32 >>> ((4 : Int32) &&& 31).toUInt32).toInt32) &&& (3 : Int32))), .val (.int y10), .val (.int y11), .val (.ref b13), .val (.ref b19), .val (.ref b19), .unset] [(.int b7), (.int x0), (.int b5)])) (fun t k => XS.iload X24.here hx rfl (hb hby at_229) rfl k) ?_
                            refine own_st (T' := T24) (F' := (mkF m 233 #[.val (.int x0), .val (.int x1), .val (.int x2), .val (.int x3), .val (.int x4), .val (.int b5), .val (.int b6), .val (.int b7), .val (.int b8), .val (.int (((x4.toUInt32 >>> ((4 : Int32) &&& 31).toUInt32).toInt32) &&& (3 : Int32))), .val (.int y10), .val (.int y11), .val (.ref b13), .val (.ref b19), .val (.ref b19), .unset] [(.int y10), (.int b7), (.int x0), (.int b5)])) (fun t k => XS.iload X24.here hx rfl (hb hby at_231) rfl k) ?_
                            obtain ⟨v32, _, ⟨T32, L32, k32, n32⟩, -, X32, ⟨Lc32, hQ32, l32, y32, z32⟩, st32⟩ := Jvm.LawKit.callS X24 hx (y := (⟨"com/example/entigate/entigate/sample/PlaylistTrackIdEqualsPinLaw", "sameField", "(ZIZI)Z"⟩ : MethodName)) hown (mvT hZ (hw _ (List.mem_of_getElem? (i := 30) rfl))) (mvT hZ (hw _ (List.mem_of_getElem? (i := 31) rfl))) (mvT hZ (hw _ (List.mem_of_getElem? (i := 32) rfl))) (mvT hZ (hw _ (List.mem_of_getElem? (i := 33) rfl))) (by decide) (backOf (W := 0) (rm6 l Z a0 CX [] b5 x0 b7 y10 (own_eqv b5 x0 b7 y10) h24 O rfl) hZ (hw _ (List.mem_of_getElem? (i := 33) rfl)) (hw _ (List.mem_of_getElem? (i := 32) rfl)) (by decide) (by decide)) (g := (mkF m 233 #[.val (.int x0), .val (.int x1), .val (.int x2), .val (.int x3), .val (.int x4), .val (.int b5), .val (.int b6), .val (.int b7), .val (.int b8), .val (.int (((x4.toUInt32 >>> ((4 : Int32) &&& 31).toUInt32).toInt32) &&& (3 : Int32))), .val (.int y10), .val (.int y11), .val (.ref b13), .val (.ref b19), .val (.ref b19), .unset] [(.int y10), (.int b7), (.int x0), (.int b5)])) rfl (by rw [hml]; rfl) (argsL := [(.int b5), (.int x0), (.int b7), (.int y10)]) (rest := []) (lenOf pd_6 rfl) rfl (by show 2 * 0 + _ ≤ _; exact Nat.le_of_eq rfl) (hb hby at_233) (fun _ _ => ⟨rfl, e24, (by decide : 6 + 0 ≤ _), (by decide : 8 + 0 ≤ _)⟩)
                            dsimp only [Pt.U, Pt.locs, Pt.cells, Pt.slots] at X32 l32 y32 z32 st32 hQ32
                            subst l32 y32 z32
                            obtain ⟨rfl, N32q, e32⟩ := hQ32
                            have N := Fr.app N N32q
                            refine own_st (T' := T32) (F' := (mkF m 236 #[.val (.int x0), .val (.int x1), .val (.int x2), .val (.int x3), .val (.int x4), .val (.int b5), .val (.int b6), .val (.int b7), .val (.int b8), .val (.int (((x4.toUInt32 >>> ((4 : Int32) &&& 31).toUInt32).toInt32) &&& (3 : Int32))), .val (.int y10), .val (.int y11), .val (.ref b13), .val (.ref b19), .val (.ref b19), .unset] [(.int (own_eqv b5 x0 b7 y10))])) st32 ?_
                            by_cases hc236_33 : (own_eqv b5 x0 b7 y10) = (0 : Int32)
                            · refine own_st (T' := T32) (F' := (mkF m 256 #[.val (.int x0), .val (.int x1), .val (.int x2), .val (.int x3), .val (.int x4), .val (.int b5), .val (.int b6), .val (.int b7), .val (.int b8), .val (.int (((x4.toUInt32 >>> ((4 : Int32) &&& 31).toUInt32).toInt32) &&& (3 : Int32))), .val (.int y10), .val (.int y11), .val (.ref b13), .val (.ref b19), .val (.ref b19), .unset] [])) (fun t k => XS.ifYes X32.here hx rfl (pc0 := 236) (pc' := 256) rfl (hb hby at_236) rfl ((if0 _ _).trans (teq hc236_33).1) (by decide) (by decide) k) ?_
                              refine own_st (T' := T32) (F' := (mkF m 257 #[.val (.int x0), .val (.int x1), .val (.int x2), .val (.int x3), .val (.int x4), .val (.int b5), .val (.int b6), .val (.int b7), .val (.int b8), .val (.int (((x4.toUInt32 >>> ((4 : Int32) &&& 31).toUInt32).toInt32) &&& (3 : Int32))), .val (.int y10), .val (.int y11), .val (.ref b13), .val (.ref b19), .val (.ref b19), .unset] [(.int (0 : Int32))])) (fun t k => XS.iconst X32.here hx rfl (hb hby at_256) k) ?_
                              refine own_st (T' := T32) (F' := (mkF m 259 #[.val (.int x0), .val (.int x1), .val (.int x2), .val (.int x3), .val (.int x4), .val (.int b5), .val (.int b6), .val (.int b7), .val (.int b8), .val (.int (((x4.toUInt32 >>> ((4 : Int32) &&& 31).toUInt32).toInt32) &&& (3 : Int32))), .val (.int y10), .val (.int y11), .val (.ref b13), .val (.ref b19), .val (.ref b19), .val (.int (0 : Int32))] [])) (fun t k => XS.istore X32.here hx rfl (hb hby at_257) rfl (l' := #[.val (.int x0), .val (.int x1), .val (.int x2), .val (.int x3), .val (.int x4), .val (.int b5), .val (.int b6), .val (.int b7), .val (.int b8), .val (.int (((x4.toUInt32 >>> ((4 : Int32) &&& 31).toUInt32).toInt32) &&& (3 : Int32))), .val (.int y10), .val (.int y11), .val (.ref b13), .val (.ref b19), .val (.ref b19), .val (.int (0 : Int32))]) rfl k) ?_
                              refine own_st (T' := T32) (F' := (mkF m 261 #[.val (.int x0), .val (.int x1), .val (.int x2), .val (.int x3), .val (.int x4), .val (.int b5), .val (.int b6), .val (.int b7), .val (.int b8), .val (.int (((x4.toUInt32 >>> ((4 : Int32) &&& 31).toUInt32).toInt32) &&& (3 : Int32))), .val (.int y10), .val (.int y11), .val (.ref b13), .val (.ref b19), .val (.ref b19), .val (.int (0 : Int32))] [(.ref b13)])) (fun t k => XS.aload X32.here hx rfl (hb hby at_259) rfl rfl k) ?_
                              refine own_st (T' := T32) (F' := (mkF m 263 #[.val (.int x0), .val (.int x1), .val (.int x2), .val (.int x3), .val (.int x4), .val (.int b5), .val (.int b6), .val (.int b7), .val (.int b8), .val (.int (((x4.toUInt32 >>> ((4 : Int32) &&& 31).toUInt32).toInt32) &&& (3 : Int32))), .val (.int y10), .val (.int y11), .val (.ref b13), .val (.ref b19), .val (.ref b19), .val (.int (0 : Int32))] [(.ref b19), (.ref b13)])) (fun t k => XS.aload X32.here hx rfl (hb hby at_261) rfl rfl k) ?_
                              obtain ⟨cq34, kq34, q34a, q34b, q34c⟩ := isOf hZ e32 E_b13
                              obtain ⟨v34, _, ⟨T34, L34, k34, n34⟩, -, X34, ⟨Lc34, hQ34, l34, y34, z34⟩, st34⟩ := X32.virtualBack hx (y := (⟨"com/example/entigate/entigate/sample/PlaylistTrackId", "equals", "(Ljava/lang/Object;)Z"⟩ : MethodName)) (z := (⟨"com/example/entigate/entigate/sample/PlaylistTrackId", "equals", "(Ljava/lang/Object;)Z"⟩ : MethodName)) hown (mvT hZ (hw _ (List.mem_of_getElem? (i := 34) rfl))) (mvT hZ (hw _ (List.mem_of_getElem? (i := 35) rfl))) (notFace_of_selects (args := #[]) (mvT hZ (hw _ (List.mem_of_getElem? (i := 37) rfl)))) (mvT hZ (hw _ (List.mem_of_getElem? (i := 37) rfl))) (mvT hZ (hw _ (List.mem_of_getElem? (i := 36) rfl))) (by decide) (backOf (W := 0) (rmE_S l Z a0 CX [] b13 b19 wt wu wp wq b5 b7 b6 b8 x0 y10 x1 y11 (0 : Int32) h24 O E_b19 F_trackId_b13 B_wt F_trackId_b19 B_wu F_playlistId_b13 B_wp F_playlistId_b19 B_wq (by simp [hc236_33])) hZ (hw _ (List.mem_of_getElem? (i := 38) rfl)) (hw _ (List.mem_of_getElem? (i := 2) rfl)) (by decide) (by decide)) q34a q34c (g := (mkF m 263 #[.val (.int x0), .val (.int x1), .val (.int x2), .val (.int x3), .val (.int x4), .val (.int b5), .val (.int b6), .val (.int b7), .val (.int b8), .val (.int (((x4.toUInt32 >>> ((4 : Int32) &&& 31).toUInt32).toInt32) &&& (3 : Int32))), .val (.int y10), .val (.int y11), .val (.ref b13), .val (.ref b19), .val (.ref b19), .val (.int (0 : Int32))] [(.ref b19), (.ref b13)])) rfl (by rw [hml]; rfl) (Steps.refl _) (argsL := [(.ref b19)]) (rest := []) (lenOf pd_3 rfl) rfl (by show 2 * 0 + _ ≤ _; exact Nat.le_of_eq rfl) (hb hby at_263) (fun _ _ => ⟨rfl, e32, (by decide : 6 + 0 ≤ _), (by decide : 8 + 0 ≤ _)⟩)
                              dsimp only [Pt.U, Pt.locs, Pt.cells, Pt.slots] at X34 l34 y34 z34 st34 hQ34
                              subst l34 y34 z34
                              obtain ⟨rfl, N34q, e34⟩ := hQ34
                              have N := Fr.app N N34q
                              refine own_tr (T' := T34) (F' := (mkF m 266 #[.val (.int x0), .val (.int x1), .val (.int x2), .val (.int x3), .val (.int x4), .val (.int b5), .val (.int b6), .val (.int b7), .val (.int b8), .val (.int (((x4.toUInt32 >>> ((4 : Int32) &&& 31).toUInt32).toInt32) &&& (3 : Int32))), .val (.int y10), .val (.int y11), .val (.ref b13), .val (.ref b19), .val (.ref b19), .val (.int (0 : Int32))] [(.int (0 : Int32))])) st34 ?_
                              refine own_st (T' := T34) (F' := (mkF m 268 #[.val (.int x0), .val (.int x1), .val (.int x2), .val (.int x3), .val (.int x4), .val (.int b5), .val (.int b6), .val (.int b7), .val (.int b8), .val (.int (((x4.toUInt32 >>> ((4 : Int32) &&& 31).toUInt32).toInt32) &&& (3 : Int32))), .val (.int y10), .val (.int y11), .val (.ref b13), .val (.ref b19), .val (.ref b19), .val (.int (0 : Int32))] [(.int (0 : Int32)), (.int (0 : Int32))])) (fun t k => XS.iload X34.here hx rfl (hb hby at_266) rfl k) ?_
                              refine own_st (T' := T34) (F' := (mkF m 271 #[.val (.int x0), .val (.int x1), .val (.int x2), .val (.int x3), .val (.int x4), .val (.int b5), .val (.int b6), .val (.int b7), .val (.int b8), .val (.int (((x4.toUInt32 >>> ((4 : Int32) &&& 31).toUInt32).toInt32) &&& (3 : Int32))), .val (.int y10), .val (.int y11), .val (.ref b13), .val (.ref b19), .val (.ref b19), .val (.int (0 : Int32))] [])) (fun t k => XS.icmpNo X34.here hx rfl (hb hby at_268) rfl (teq rfl).2 k) ?_
                              refine own_st (T' := T34) (F' := (mkF m 272 #[.val (.int x0), .val (.int x1), .val (.int x2), .val (.int x3), .val (.int x4), .val (.int b5), .val (.int b6), .val (.int b7), .val (.int b8), .val (.int (((x4.toUInt32 >>> ((4 : Int32) &&& 31).toUInt32).toInt32) &&& (3 : Int32))), .val (.int y10), .val (.int y11), .val (.ref b13), .val (.ref b19), .val (.ref b19), .val (.int (0 : Int32))] [(.int (1 : Int32))])) (fun t k => XS.iconst X34.here hx rfl (hb hby at_271) k) ?_
                              refine own_st (T' := T34) (F' := (mkF m 276 #[.val (.int x0), .val (.int x1), .val (.int x2), .val (.int x3), .val (.int x4), .val (.int b5), .val (.int b6), .val (.int b7), .val (.int b8), .val (.int (((x4.toUInt32 >>> ((4 : Int32) &&& 31).toUInt32).toInt32) &&& (3 : Int32))), .val (.int y10), .val (.int y11), .val (.ref b13), .val (.ref b19), .val (.ref b19), .val (.int (0 : Int32))] [(.int (1 : Int32))])) (fun t k => XS.goto X34.here hx rfl (pc0 := 272) (pc' := 276) rfl (hb hby at_272) (by decide) (by decide) k) ?_
                              exact own_retN X34 hx (t := .boolean) Bd.returns (by simp) (by decide) (hb hby at_276) hlk (by show Q0 Z _ T34.heap _; rw [e34]; exact ⟨rfl, N⟩) (by decide) (by decide)
                            · refine own_st (T' := T32) (F' := (mkF m 239 #[.val (.int x0), .val (.int x1), .val (.int x2), .val (.int x3), .val (.int x4), .val (.int b5), .val (.int b6), .val (.int b7), .val (.int b8), .val (.int (((x4.toUInt32 >>> ((4 : Int32) &&& 31).toUInt32).toInt32) &&& (3 : Int32))), .val (.int y10), .val (.int y11), .val (.ref b13), .val (.ref b19), .val (.ref b19), .unset] [])) (fun t k => XS.ifNo X32.here hx rfl (hb hby at_236) rfl ((if0 _ _).trans (feq hc236_33).1) k) ?_
                              refine own_st (T' := T32) (F' := (mkF m 241 #[.val (.int x0), .val (.int x1), .val (.int x2), .val (.int x3), .val (.int x4), .val (.int b5), .val (.int b6), .val (.int b7), .val (.int b8), .val (.int (((x4.toUInt32 >>> ((4 : Int32) &&& 31).toUInt32).toInt32) &&& (3 : Int32))), .val (.int y10), .val (.int y11), .val (.ref b13), .val (.ref b19), .val (.ref b19), .unset] [(.int b6)])) (fun t k => XS.iload X32.here hx rfl (hb hby at_239) rfl k) ?_
                              refine own_st (T' := T32) (F' := (mkF m 242 #[.val (.int x0), .val (.int x1), .val (.int x2), .val (.int x3), .val (.int x4), .val (.int b5), .val (.int b6), .val (.int b7), .val (.int b8), .val (.int (((x4.toUInt32 >>> ((4 : Int32) &&& 31).toUInt32).toInt32) &&& (3 : Int32))), .val (.int y10), .val (.int y11), .val (.ref b13), .val (.ref b19), .val (.ref b19), .unset] [(.int x1), (.int b6)])) (fun t k => XS.iloadN X32.here hx rfl (hb hby at_241) rfl k) ?_
                              refine own_st (T' := T32) (F' := (mkF m 244 #[.val (.int x0), .val (.int x1), .val (.int x2), .val (.int x3), .val (.int x4), .val (.int b5), .val (.int b6), .val (.int b7), .val (.int b8), .val (.int (((x4.toUInt32 >>> ((4 : Int32) &&& 31).toUInt32).toInt32) &&& (3 : Int32))), .val (.int y10), .val (.int y11), .val (.ref b13), .val (.ref b19), .val (.ref b19), .unset] [(.int b8), (.int x1), (.int b6)])) (fun t k => XS.iload X32.here hx rfl (hb hby at_242) rfl k) ?_
                              refine own_st (T' := T32) (F' := (mkF m 246 #[.val (.int x0), .val (.int x1), .val (.int x2), .val (.int x3), .val (.int x4), .val (.int b5), .val (.int b6), .val (.int b7), .val (.int b8), .val (.int (((x4.toUInt32 >>> ((4 : Int32) &&& 31).toUInt32).toInt32) &&& (3 : Int32))), .val (.int y10), .val (.int y11), .val (.ref b13), .val (.ref b19), .val (.ref b19), .unset] [(.int y11), (.int b8), (.int x1), (.int b6)])) (fun t k => XS.iload X32.here hx rfl (hb hby at_244) rfl k) ?_
                              obtain ⟨v35, _, ⟨T35, L35, k35, n35⟩, -, X35, ⟨Lc35, hQ35, l35, y35, z35⟩, st35⟩ := Jvm.LawKit.callS X32 hx (y := (⟨"com/example/entigate/entigate/sample/PlaylistTrackIdEqualsPinLaw", "sameField", "(ZIZI)Z"⟩ : MethodName)) hown (mvT hZ (hw _ (List.mem_of_getElem? (i := 30) rfl))) (mvT hZ (hw _ (List.mem_of_getElem? (i := 31) rfl))) (mvT hZ (hw _ (List.mem_of_getElem? (i := 32) rfl))) (mvT hZ (hw _ (List.mem_of_getElem? (i := 33) rfl))) (by decide) (backOf (W := 0) (rm6 l Z a0 CX [] b6 x1 b8 y11 (own_eqv b6 x1 b8 y11) h24 O rfl) hZ (hw _ (List.mem_of_getElem? (i := 33) rfl)) (hw _ (List.mem_of_getElem? (i := 32) rfl)) (by decide) (by decide)) (g := (mkF m 246 #[.val (.int x0), .val (.int x1), .val (.int x2), .val (.int x3), .val (.int x4), .val (.int b5), .val (.int b6), .val (.int b7), .val (.int b8), .val (.int (((x4.toUInt32 >>> ((4 : Int32) &&& 31).toUInt32).toInt32) &&& (3 : Int32))), .val (.int y10), .val (.int y11), .val (.ref b13), .val (.ref b19), .val (.ref b19), .unset] [(.int y11), (.int b8), (.int x1), (.int b6)])) rfl (by rw [hml]; rfl) (argsL := [(.int b6), (.int x1), (.int b8), (.int y11)]) (rest := []) (lenOf pd_6 rfl) rfl (by show 2 * 0 + _ ≤ _; exact Nat.le_of_eq rfl) (hb hby at_246) (fun _ _ => ⟨rfl, e32, (by decide : 6 + 0 ≤ _), (by decide : 8 + 0 ≤ _)⟩)
                              dsimp only [Pt.U, Pt.locs, Pt.cells, Pt.slots] at X35 l35 y35 z35 st35 hQ35
                              subst l35 y35 z35
                              obtain ⟨rfl, N35q, e35⟩ := hQ35
                              have N := Fr.app N N35q
                              refine own_st (T' := T35) (F' := (mkF m 249 #[.val (.int x0), .val (.int x1), .val (.int x2), .val (.int x3), .val (.int x4), .val (.int b5), .val (.int b6), .val (.int b7), .val (.int b8), .val (.int (((x4.toUInt32 >>> ((4 : Int32) &&& 31).toUInt32).toInt32) &&& (3 : Int32))), .val (.int y10), .val (.int y11), .val (.ref b13), .val (.ref b19), .val (.ref b19), .unset] [(.int (own_eqv b6 x1 b8 y11))])) st35 ?_
                              by_cases hc249_36 : (own_eqv b6 x1 b8 y11) = (0 : Int32)
                              · refine own_st (T' := T35) (F' := (mkF m 256 #[.val (.int x0), .val (.int x1), .val (.int x2), .val (.int x3), .val (.int x4), .val (.int b5), .val (.int b6), .val (.int b7), .val (.int b8), .val (.int (((x4.toUInt32 >>> ((4 : Int32) &&& 31).toUInt32).toInt32) &&& (3 : Int32))), .val (.int y10), .val (.int y11), .val (.ref b13), .val (.ref b19), .val (.ref b19), .unset] [])) (fun t k => XS.ifYes X35.here hx rfl (pc0 := 249) (pc' := 256) rfl (hb hby at_249) rfl ((if0 _ _).trans (teq hc249_36).1) (by decide) (by decide) k) ?_
                                refine own_st (T' := T35) (F' := (mkF m 257 #[.val (.int x0), .val (.int x1), .val (.int x2), .val (.int x3), .val (.int x4), .val (.int b5), .val (.int b6), .val (.int b7), .val (.int b8), .val (.int (((x4.toUInt32 >>> ((4 : Int32) &&& 31).toUInt32).toInt32) &&& (3 : Int32))), .val (.int y10), .val (.int y11), .val (.ref b13), .val (.ref b19), .val (.ref b19), .unset] [(.int (0 : Int32))])) (fun t k => XS.iconst X35.here hx rfl (hb hby at_256) k) ?_
                                refine own_st (T' := T35) (F' := (mkF m 259 #[.val (.int x0), .val (.int x1), .val (.int x2), .val (.int x3), .val (.int x4), .val (.int b5), .val (.int b6), .val (.int b7), .val (.int b8), .val (.int (((x4.toUInt32 >>> ((4 : Int32) &&& 31).toUInt32).toInt32) &&& (3 : Int32))), .val (.int y10), .val (.int y11), .val (.ref b13), .val (.ref b19), .val (.ref b19), .val (.int (0 : Int32))] [])) (fun t k => XS.istore X35.here hx rfl (hb hby at_257) rfl (l' := #[.val (.int x0), .val (.int x1), .val (.int x2), .val (.int x3), .val (.int x4), .val (.int b5), .val (.int b6), .val (.int b7), .val (.int b8), .val (.int (((x4.toUInt32 >>> ((4 : Int32) &&& 31).toUInt32).toInt32) &&& (3 : Int32))), .val (.int y10), .val (.int y11), .val (.ref b13), .val (.ref b19), .val (.ref b19), .val (.int (0 : Int32))]) rfl k) ?_
                                refine own_st (T' := T35) (F' := (mkF m 261 #[.val (.int x0), .val (.int x1), .val (.int x2), .val (.int x3), .val (.int x4), .val (.int b5), .val (.int b6), .val (.int b7), .val (.int b8), .val (.int (((x4.toUInt32 >>> ((4 : Int32) &&& 31).toUInt32).toInt32) &&& (3 : Int32))), .val (.int y10), .val (.int y11), .val (.ref b13), .val (.ref b19), .val (.ref b19), .val (.int (0 : Int32))] [(.ref b13)])) (fun t k => XS.aload X35.here hx rfl (hb hby at_259) rfl rfl k) ?_
                                refine own_st (T' := T35) (F' := (mkF m 263 #[.val (.int x0), .val (.int x1), .val (.int x2), .val (.int x3), .val (.int x4), .val (.int b5), .val (.int b6), .val (.int b7), .val (.int b8), .val (.int (((x4.toUInt32 >>> ((4 : Int32) &&& 31).toUInt32).toInt32) &&& (3 : Int32))), .val (.int y10), .val (.int y11), .val (.ref b13), .val (.ref b19), .val (.ref b19), .val (.int (0 : Int32))] [(.ref b19), (.ref b13)])) (fun t k => XS.aload X35.here hx rfl (hb hby at_261) rfl rfl k) ?_
                                obtain ⟨cq37, kq37, q37a, q37b, q37c⟩ := isOf hZ e35 E_b13
                                obtain ⟨v37, _, ⟨T37, L37, k37, n37⟩, -, X37, ⟨Lc37, hQ37, l37, y37, z37⟩, st37⟩ := X35.virtualBack hx (y := (⟨"com/example/entigate/entigate/sample/PlaylistTrackId", "equals", "(Ljava/lang/Object;)Z"⟩ : MethodName)) (z := (⟨"com/example/entigate/entigate/sample/PlaylistTrackId", "equals", "(Ljava/lang/Object;)Z"⟩ : MethodName)) hown (mvT hZ (hw _ (List.mem_of_getElem? (i := 34) rfl))) (mvT hZ (hw _ (List.mem_of_getElem? (i := 35) rfl))) (notFace_of_selects (args := #[]) (mvT hZ (hw _ (List.mem_of_getElem? (i := 37) rfl)))) (mvT hZ (hw _ (List.mem_of_getElem? (i := 37) rfl))) (mvT hZ (hw _ (List.mem_of_getElem? (i := 36) rfl))) (by decide) (backOf (W := 0) (rmE_S l Z a0 CX [] b13 b19 wt wu wp wq b5 b7 b6 b8 x0 y10 x1 y11 (0 : Int32) h24 O E_b19 F_trackId_b13 B_wt F_trackId_b19 B_wu F_playlistId_b13 B_wp F_playlistId_b19 B_wq (by simp [hc236_33, hc249_36])) hZ (hw _ (List.mem_of_getElem? (i := 38) rfl)) (hw _ (List.mem_of_getElem? (i := 2) rfl)) (by decide) (by decide)) q37a q37c (g := (mkF m 263 #[.val (.int x0), .val (.int x1), .val (.int x2), .val (.int x3), .val (.int x4), .val (.int b5), .val (.int b6), .val (.int b7), .val (.int b8), .val (.int (((x4.toUInt32 >>> ((4 : Int32) &&& 31).toUInt32).toInt32) &&& (3 : Int32))), .val (.int y10), .val (.int y11), .val (.ref b13), .val (.ref b19), .val (.ref b19), .val (.int (0 : Int32))] [(.ref b19), (.ref b13)])) rfl (by rw [hml]; rfl) (Steps.refl _) (argsL := [(.ref b19)]) (rest := []) (lenOf pd_3 rfl) rfl (by show 2 * 0 + _ ≤ _; exact Nat.le_of_eq rfl) (hb hby at_263) (fun _ _ => ⟨rfl, e35, (by decide : 6 + 0 ≤ _), (by decide : 8 + 0 ≤ _)⟩)
                                dsimp only [Pt.U, Pt.locs, Pt.cells, Pt.slots] at X37 l37 y37 z37 st37 hQ37
                                subst l37 y37 z37
                                obtain ⟨rfl, N37q, e37⟩ := hQ37
                                have N := Fr.app N N37q
                                refine own_tr (T' := T37) (F' := (mkF m 266 #[.val (.int x0), .val (.int x1), .val (.int x2), .val (.int x3), .val (.int x4), .val (.int b5), .val (.int b6), .val (.int b7), .val (.int b8), .val (.int (((x4.toUInt32 >>> ((4 : Int32) &&& 31).toUInt32).toInt32) &&& (3 : Int32))), .val (.int y10), .val (.int y11), .val (.ref b13), .val (.ref b19), .val (.ref b19), .val (.int (0 : Int32))] [(.int (0 : Int32))])) st37 ?_
                                refine own_st (T' := T37) (F' := (mkF m 268 #[.val (.int x0), .val (.int x1), .val (.int x2), .val (.int x3), .val (.int x4), .val (.int b5), .val (.int b6), .val (.int b7), .val (.int b8), .val (.int (((x4.toUInt32 >>> ((4 : Int32) &&& 31).toUInt32).toInt32) &&& (3 : Int32))), .val (.int y10), .val (.int y11), .val (.ref b13), .val (.ref b19), .val (.ref b19), .val (.int (0 : Int32))] [(.int (0 : Int32)), (.int (0 : Int32))])) (fun t k => XS.iload X37.here hx rfl (hb hby at_266) rfl k) ?_
                                refine own_st (T' := T37) (F' := (mkF m 271 #[.val (.int x0), .val (.int x1), .val (.int x2), .val (.int x3), .val (.int x4), .val (.int b5), .val (.int b6), .val (.int b7), .val (.int b8), .val (.int (((x4.toUInt32 >>> ((4 : Int32) &&& 31).toUInt32).toInt32) &&& (3 : Int32))), .val (.int y10), .val (.int y11), .val (.ref b13), .val (.ref b19), .val (.ref b19), .val (.int (0 : Int32))] [])) (fun t k => XS.icmpNo X37.here hx rfl (hb hby at_268) rfl (teq rfl).2 k) ?_
                                refine own_st (T' := T37) (F' := (mkF m 272 #[.val (.int x0), .val (.int x1), .val (.int x2), .val (.int x3), .val (.int x4), .val (.int b5), .val (.int b6), .val (.int b7), .val (.int b8), .val (.int (((x4.toUInt32 >>> ((4 : Int32) &&& 31).toUInt32).toInt32) &&& (3 : Int32))), .val (.int y10), .val (.int y11), .val (.ref b13), .val (.ref b19), .val (.ref b19), .val (.int (0 : Int32))] [(.int (1 : Int32))])) (fun t k => XS.iconst X37.here hx rfl (hb hby at_271) k) ?_
                                refine own_st (T' := T37) (F' := (mkF m 276 #[.val (.int x0), .val (.int x1), .val (.int x2), .val (.int x3), .val (.int x4), .val (.int b5), .val (.int b6), .val (.int b7), .val (.int b8), .val (.int (((x4.toUInt32 >>> ((4 : Int32) &&& 31).toUInt32).toInt32) &&& (3 : Int32))), .val (.int y10), .val (.int y11), .val (.ref b13), .val (.ref b19), .val (.ref b19), .val (.int (0 : Int32))] [(.int (1 : Int32))])) (fun t k => XS.goto X37.here hx rfl (pc0 := 272) (pc' := 276) rfl (hb hby at_272) (by decide) (by decide) k) ?_
                                exact own_retN X37 hx (t := .boolean) Bd.returns (by simp) (by decide) (hb hby at_276) hlk (by show Q0 Z _ T37.heap _; rw [e37]; exact ⟨rfl, N⟩) (by decide) (by decide)
                              · refine own_st (T' := T35) (F' := (mkF m 252 #[.val (.int x0), .val (.int x1), .val (.int x2), .val (.int x3), .val (.int x4), .val (.int b5), .val (.int b6), .val (.int b7), .val (.int b8), .val (.int (((x4.toUInt32 >>> ((4 : Int32) &&& 31).toUInt32).toInt32) &&& (3 : Int32))), .val (.int y10), .val (.int y11), .val (.ref b13), .val (.ref b19), .val (.ref b19), .unset] [])) (fun t k => XS.ifNo X35.here hx rfl (hb hby at_249) rfl ((if0 _ _).trans (feq hc249_36).1) k) ?_
                                refine own_st (T' := T35) (F' := (mkF m 253 #[.val (.int x0), .val (.int x1), .val (.int x2), .val (.int x3), .val (.int x4), .val (.int b5), .val (.int b6), .val (.int b7), .val (.int b8), .val (.int (((x4.toUInt32 >>> ((4 : Int32) &&& 31).toUInt32).toInt32) &&& (3 : Int32))), .val (.int y10), .val (.int y11), .val (.ref b13), .val (.ref b19), .val (.ref b19), .unset] [(.int (1 : Int32))])) (fun t k => XS.iconst X35.here hx rfl (hb hby at_252) k) ?_
                                refine own_st (T' := T35) (F' := (mkF m 257 #[.val (.int x0), .val (.int x1), .val (.int x2), .val (.int x3), .val (.int x4), .val (.int b5), .val (.int b6), .val (.int b7), .val (.int b8), .val (.int (((x4.toUInt32 >>> ((4 : Int32) &&& 31).toUInt32).toInt32) &&& (3 : Int32))), .val (.int y10), .val (.int y11), .val (.ref b13), .val (.ref b19), .val (.ref b19), .unset] [(.int (1 : Int32))])) (fun t k => XS.goto X35.here hx rfl (pc0 := 253) (pc' := 257) rfl (hb hby at_253) (by decide) (by decide) k) ?_
                                refine own_st (T' := T35) (F' := (mkF m 259 #[.val (.int x0), .val (.int x1), .val (.int x2), .val (.int x3), .val (.int x4), .val (.int b5), .val (.int b6), .val (.int b7), .val (.int b8), .val (.int (((x4.toUInt32 >>> ((4 : Int32) &&& 31).toUInt32).toInt32) &&& (3 : Int32))), .val (.int y10), .val (.int y11), .val (.ref b13), .val (.ref b19), .val (.ref b19), .val (.int (1 : Int32))] [])) (fun t k => XS.istore X35.here hx rfl (hb hby at_257) rfl (l' := #[.val (.int x0), .val (.int x1), .val (.int x2), .val (.int x3), .val (.int x4), .val (.int b5), .val (.int b6), .val (.int b7), .val (.int b8), .val (.int (((x4.toUInt32 >>> ((4 : Int32) &&& 31).toUInt32).toInt32) &&& (3 : Int32))), .val (.int y10), .val (.int y11), .val (.ref b13), .val (.ref b19), .val (.ref b19), .val (.int (1 : Int32))]) rfl k) ?_
                                refine own_st (T' := T35) (F' := (mkF m 261 #[.val (.int x0), .val (.int x1), .val (.int x2), .val (.int x3), .val (.int x4), .val (.int b5), .val (.int b6), .val (.int b7), .val (.int b8), .val (.int (((x4.toUInt32 >>> ((4 : Int32) &&& 31).toUInt32).toInt32) &&& (3 : Int32))), .val (.int y10), .val (.int y11), .val (.ref b13), .val (.ref b19), .val (.ref b19), .val (.int (1 : Int32))] [(.ref b13)])) (fun t k => XS.aload X35.here hx rfl (hb hby at_259) rfl rfl k) ?_
                                refine own_st (T' := T35) (F' := (mkF m 263 #[.val (.int x0), .val (.int x1), .val (.int x2), .val (.int x3), .val (.int x4), .val (.int b5), .val (.int b6), .val (.int b7), .val (.int b8), .val (.int (((x4.toUInt32 >>> ((4 : Int32) &&& 31).toUInt32).toInt32) &&& (3 : Int32))), .val (.int y10), .val (.int y11), .val (.ref b13), .val (.ref b19), .val (.ref b19), .val (.int (1 : Int32))] [(.ref b19), (.ref b13)])) (fun t k => XS.aload X35.here hx rfl (hb hby at_261) rfl rfl k) ?_
                                obtain ⟨cq38, kq38, q38a, q38b, q38c⟩ := isOf hZ e35 E_b13
                                obtain ⟨v38, _, ⟨T38, L38, k38, n38⟩, -, X38, ⟨Lc38, hQ38, l38, y38, z38⟩, st38⟩ := X35.virtualBack hx (y := (⟨"com/example/entigate/entigate/sample/PlaylistTrackId", "equals", "(Ljava/lang/Object;)Z"⟩ : MethodName)) (z := (⟨"com/example/entigate/entigate/sample/PlaylistTrackId", "equals", "(Ljava/lang/Object;)Z"⟩ : MethodName)) hown (mvT hZ (hw _ (List.mem_of_getElem? (i := 34) rfl))) (mvT hZ (hw _ (List.mem_of_getElem? (i := 35) rfl))) (notFace_of_selects (args := #[]) (mvT hZ (hw _ (List.mem_of_getElem? (i := 37) rfl)))) (mvT hZ (hw _ (List.mem_of_getElem? (i := 37) rfl))) (mvT hZ (hw _ (List.mem_of_getElem? (i := 36) rfl))) (by decide) (backOf (W := 0) (rmE_S l Z a0 CX [] b13 b19 wt wu wp wq b5 b7 b6 b8 x0 y10 x1 y11 (1 : Int32) h24 O E_b19 F_trackId_b13 B_wt F_trackId_b19 B_wu F_playlistId_b13 B_wp F_playlistId_b19 B_wq (by simp [hc236_33, hc249_36])) hZ (hw _ (List.mem_of_getElem? (i := 38) rfl)) (hw _ (List.mem_of_getElem? (i := 2) rfl)) (by decide) (by decide)) q38a q38c (g := (mkF m 263 #[.val (.int x0), .val (.int x1), .val (.int x2), .val (.int x3), .val (.int x4), .val (.int b5), .val (.int b6), .val (.int b7), .val (.int b8), .val (.int (((x4.toUInt32 >>> ((4 : Int32) &&& 31).toUInt32).toInt32) &&& (3 : Int32))), .val (.int y10), .val (.int y11), .val (.ref b13), .val (.ref b19), .val (.ref b19), .val (.int (1 : Int32))] [(.ref b19), (.ref b13)])) rfl (by rw [hml]; rfl) (Steps.refl _) (argsL := [(.ref b19)]) (rest := []) (lenOf pd_3 rfl) rfl (by show 2 * 0 + _ ≤ _; exact Nat.le_of_eq rfl) (hb hby at_263) (fun _ _ => ⟨rfl, e35, (by decide : 6 + 0 ≤ _), (by decide : 8 + 0 ≤ _)⟩)
                                dsimp only [Pt.U, Pt.locs, Pt.cells, Pt.slots] at X38 l38 y38 z38 st38 hQ38
                                subst l38 y38 z38
                                obtain ⟨rfl, N38q, e38⟩ := hQ38
                                have N := Fr.app N N38q
                                refine own_tr (T' := T38) (F' := (mkF m 266 #[.val (.int x0), .val (.int x1), .val (.int x2), .val (.int x3), .val (.int x4), .val (.int b5), .val (.int b6), .val (.int b7), .val (.int b8), .val (.int (((x4.toUInt32 >>> ((4 : Int32) &&& 31).toUInt32).toInt32) &&& (3 : Int32))), .val (.int y10), .val (.int y11), .val (.ref b13), .val (.ref b19), .val (.ref b19), .val (.int (1 : Int32))] [(.int (1 : Int32))])) st38 ?_
                                refine own_st (T' := T38) (F' := (mkF m 268 #[.val (.int x0), .val (.int x1), .val (.int x2), .val (.int x3), .val (.int x4), .val (.int b5), .val (.int b6), .val (.int b7), .val (.int b8), .val (.int (((x4.toUInt32 >>> ((4 : Int32) &&& 31).toUInt32).toInt32) &&& (3 : Int32))), .val (.int y10), .val (.int y11), .val (.ref b13), .val (.ref b19), .val (.ref b19), .val (.int (1 : Int32))] [(.int (1 : Int32)), (.int (1 : Int32))])) (fun t k => XS.iload X38.here hx rfl (hb hby at_266) rfl k) ?_
                                refine own_st (T' := T38) (F' := (mkF m 271 #[.val (.int x0), .val (.int x1), .val (.int x2), .val (.int x3), .val (.int x4), .val (.int b5), .val (.int b6), .val (.int b7), .val (.int b8), .val (.int (((x4.toUInt32 >>> ((4 : Int32) &&& 31).toUInt32).toInt32) &&& (3 : Int32))), .val (.int y10), .val (.int y11), .val (.ref b13), .val (.ref b19), .val (.ref b19), .val (.int (1 : Int32))] [])) (fun t k => XS.icmpNo X38.here hx rfl (hb hby at_268) rfl (teq rfl).2 k) ?_
                                refine own_st (T' := T38) (F' := (mkF m 272 #[.val (.int x0), .val (.int x1), .val (.int x2), .val (.int x3), .val (.int x4), .val (.int b5), .val (.int b6), .val (.int b7), .val (.int b8), .val (.int (((x4.toUInt32 >>> ((4 : Int32) &&& 31).toUInt32).toInt32) &&& (3 : Int32))), .val (.int y10), .val (.int y11), .val (.ref b13), .val (.ref b19), .val (.ref b19), .val (.int (1 : Int32))] [(.int (1 : Int32))])) (fun t k => XS.iconst X38.here hx rfl (hb hby at_271) k) ?_
                                refine own_st (T' := T38) (F' := (mkF m 276 #[.val (.int x0), .val (.int x1), .val (.int x2), .val (.int x3), .val (.int x4), .val (.int b5), .val (.int b6), .val (.int b7), .val (.int b8), .val (.int (((x4.toUInt32 >>> ((4 : Int32) &&& 31).toUInt32).toInt32) &&& (3 : Int32))), .val (.int y10), .val (.int y11), .val (.ref b13), .val (.ref b19), .val (.ref b19), .val (.int (1 : Int32))] [(.int (1 : Int32))])) (fun t k => XS.goto X38.here hx rfl (pc0 := 272) (pc' := 276) rfl (hb hby at_272) (by decide) (by decide) k) ?_
                                exact own_retN X38 hx (t := .boolean) Bd.returns (by simp) (by decide) (hb hby at_276) hlk (by show Q0 Z _ T38.heap _; rw [e38]; exact ⟨rfl, N⟩) (by decide) (by decide)
                    refine own_st (T' := T22) (F' := (mkF m 159 #[.val (.int x0), .val (.int x1), .val (.int x2), .val (.int x3), .val (.int x4), .val (.int b5), .val (.int b6), .val (.int b7), .val (.int b8), .val (.int (((x4.toUInt32 >>> ((4 : Int32) &&& 31).toUInt32).toInt32) &&& (3 : Int32))), .val (.int y10), .val (.int y11), .val (.ref b13), .val (.ref b19), .unset, .unset] [(.int b8)])) (fun t k => XS.iload X22.here hx rfl (hb hby at_157) rfl k) ?_
                    by_cases hc159_39 : b8 = (0 : Int32)
                    · refine own_st (T' := T22) (F' := (mkF m 162 #[.val (.int x0), .val (.int x1), .val (.int x2), .val (.int x3), .val (.int x4), .val (.int b5), .val (.int b6), .val (.int b7), .val (.int b8), .val (.int (((x4.toUInt32 >>> ((4 : Int32) &&& 31).toUInt32).toInt32) &&& (3 : Int32))), .val (.int y10), .val (.int y11), .val (.ref b13), .val (.ref b19), .unset, .unset] [])) (fun t k => XS.ifNo X22.here hx rfl (hb hby at_159) rfl ((if0 _ _).trans (teq hc159_39).2) k) ?_
                      refine own_st (T' := T22) (F' := (mkF m 164 #[.val (.int x0), .val (.int x1), .val (.int x2), .val (.int x3), .val (.int x4), .val (.int b5), .val (.int b6), .val (.int b7), .val (.int b8), .val (.int (((x4.toUInt32 >>> ((4 : Int32) &&& 31).toUInt32).toInt32) &&& (3 : Int32))), .val (.int y10), .val (.int y11), .val (.ref b13), .val (.ref b19), .unset, .unset] [(.ref b19)])) (fun t k => XS.aload X22.here hx rfl (hb hby at_162) rfl rfl k) ?_
                      refine own_st (T' := T22) (F' := (mkF m 166 #[.val (.int x0), .val (.int x1), .val (.int x2), .val (.int x3), .val (.int x4), .val (.int b5), .val (.int b6), .val (.int b7), .val (.int b8), .val (.int (((x4.toUInt32 >>> ((4 : Int32) &&& 31).toUInt32).toInt32) &&& (3 : Int32))), .val (.int y10), .val (.int y11), .val (.ref b13), .val (.ref b19), .unset, .unset] [(.int y11), (.ref b19)])) (fun t k => XS.iload X22.here hx rfl (hb hby at_164) rfl k) ?_
                      obtain ⟨v40, _, ⟨T40, L40, k40, n40⟩, -, X40, ⟨Lc40, hQ40, l40, y40, z40⟩, st40⟩ := Jvm.LawKit.callS X22 hx (y := (⟨"java/lang/Integer", "valueOf", "(I)Ljava/lang/Integer;"⟩ : MethodName)) hown (mvT hZ (hw _ (List.mem_of_getElem? (i := 9) rfl))) (mvT hZ (hw _ (List.mem_of_getElem? (i := 10) rfl))) (mvT hZ (hw _ (List.mem_of_getElem? (i := 11) rfl))) (mvT hZ (hw _ (List.mem_of_getElem? (i := 12) rfl))) (by decide) (backOf (W := 1) (rm3 l Z a0 CX [] y11 h22 O) hZ (hw _ (List.mem_of_getElem? (i := 12) rfl)) (hw _ (List.mem_of_getElem? (i := 11) rfl)) (by decide) (by decide)) (g := (mkF m 166 #[.val (.int x0), .val (.int x1), .val (.int x2), .val (.int x3), .val (.int x4), .val (.int b5), .val (.int b6), .val (.int b7), .val (.int b8), .val (.int (((x4.toUInt32 >>> ((4 : Int32) &&& 31).toUInt32).toInt32) &&& (3 : Int32))), .val (.int y10), .val (.int y11), .val (.ref b13), .val (.ref b19), .unset, .unset] [(.int y11), (.ref b19)])) rfl (by rw [hml]; rfl) (argsL := [(.int y11)]) (rest := [(.ref b19)]) (lenOf pd_5 rfl) rfl (by show 2 * 0 + _ ≤ _; exact Nat.le_of_eq rfl) (hb hby at_166) (fun _ _ => ⟨rfl, e22, (by decide : 5 + 1 ≤ _), (by decide : 7 + 1 ≤ _)⟩)
                      dsimp only [Pt.U, Pt.locs, Pt.cells, Pt.slots] at X40 l40 y40 z40 st40 hQ40
                      subst l40 y40 z40
                      obtain ⟨r40, rfl, N40q, E40, X_r40, F_r40⟩ := hQ40
                      have N := Fr.app N N40q
                      have B_wt := B_wt.ext E40
                      have B_wp := B_wp.ext E40
                      have B_wu := B_wu.ext E40
                      have E_b13 := E_b13.ext E40
                      have F_trackId_b13 := F_trackId_b13.ext E40
                      have F_playlistId_b13 := F_playlistId_b13.ext E40
                      have E_b19 := E_b19.ext E40
                      have F_trackId_b19 := F_trackId_b19.ext E40
                      have F_playlistId_b19 := F_playlistId_b19.ext E40
                      have O := own_ext_trans O E40
                      have B_r40 : own_Bx Z T40.heap (.ref r40) 0 y11 := Or.inr ⟨rfl, r40, rfl, X_r40, F_r40⟩
                      refine own_st (T' := T40) (F' := (mkF m 169 #[.val (.int x0), .val (.int x1), .val (.int x2), .val (.int x3), .val (.int x4), .val (.int b5), .val (.int b6), .val (.int b7), .val (.int b8), .val (.int (((x4.toUInt32 >>> ((4 : Int32) &&& 31).toUInt32).toInt32) &&& (3 : Int32))), .val (.int y10), .val (.int y11), .val (.ref b13), .val (.ref b19), .unset, .unset] [(.ref r40), (.ref b19)])) st40 ?_
                      obtain ⟨cq41, kq41, q41a, q41b, q41c⟩ := isOf hZ rfl E_b19
                      obtain ⟨v41, _, ⟨T41, L41, k41, n41⟩, -, X41, ⟨Lc41, hQ41, l41, y41, z41⟩, st41⟩ := X40.virtualBack hx (y := (⟨"com/example/entigate/entigate/sample/PlaylistTrackId", "setPlaylistId", "(Ljava/lang/Integer;)V"⟩ : MethodName)) (z := (⟨"com/example/entigate/entigate/sample/PlaylistTrackId", "setPlaylistId", "(Ljava/lang/Integer;)V"⟩ : MethodName)) hown (mvT hZ (hw _ (List.mem_of_getElem? (i := 23) rfl))) (mvT hZ (hw _ (List.mem_of_getElem? (i := 24) rfl))) (notFace_of_selects (args := #[]) (mvT hZ (hw _ (List.mem_of_getElem? (i := 26) rfl)))) (mvT hZ (hw _ (List.mem_of_getElem? (i := 26) rfl))) (mvT hZ (hw _ (List.mem_of_getElem? (i := 25) rfl))) (by decide) (backOf (W := 0) (rm5 l Z a0 CX [] b19 (.ref r40) rfl wu hwu .null rfl T40.heap O E_b19 g_b19 F_trackId_b19 F_playlistId_b19) hZ (hw _ (List.mem_of_getElem? (i := 27) rfl)) (hw _ (List.mem_of_getElem? (i := 2) rfl)) (by decide) (by decide)) q41a q41c (g := (mkF m 169 #[.val (.int x0), .val (.int x1), .val (.int x2), .val (.int x3), .val (.int x4), .val (.int b5), .val (.int b6), .val (.int b7), .val (.int b8), .val (.int (((x4.toUInt32 >>> ((4 : Int32) &&& 31).toUInt32).toInt32) &&& (3 : Int32))), .val (.int y10), .val (.int y11), .val (.ref b13), .val (.ref b19), .unset, .unset] [(.ref r40), (.ref b19)])) rfl (by rw [hml]; rfl) (Steps.refl _) (argsL := [(.ref r40)]) (rest := []) (lenOf pd_7 rfl) rfl (by show 2 * 0 + _ ≤ _; exact Nat.le_of_eq rfl) (hb hby at_169) (fun _ _ => ⟨rfl, rfl, (by decide : 6 + 0 ≤ _), (by decide : 8 + 0 ≤ _)⟩)
                      dsimp only [Pt.U, Pt.locs, Pt.cells, Pt.slots] at X41 l41 y41 z41 st41 hQ41
                      subst l41 y41 z41
                      obtain ⟨rfl, N41q, K41, F_trackId_b19, F_playlistId_b19⟩ := hQ41
                      have N := Fr.app N N41q
                      have B_wt := B_wt.keep K41 E_b19 (by decide)
                      have B_wp := B_wp.keep K41 E_b19 (by decide)
                      have B_wu := B_wu.keep K41 E_b19 (by decide)
                      have B_r40 := B_r40.keep K41 E_b19 (by decide)
                      have E_b13 := E_b13.keep K41
                      have F_trackId_b13 := F_trackId_b13.keep K41 (ninS ne_b13_b19 nin0)
                      have F_playlistId_b13 := F_playlistId_b13.keep K41 (ninS ne_b13_b19 nin0)
                      have E_b19 := E_b19.keep K41
                      have O := own_O_keep O K41 (allS g_b19 all0)
                      refine own_tr (T' := T41) (F' := (mkF m 172 #[.val (.int x0), .val (.int x1), .val (.int x2), .val (.int x3), .val (.int x4), .val (.int b5), .val (.int b6), .val (.int b7), .val (.int b8), .val (.int (((x4.toUInt32 >>> ((4 : Int32) &&& 31).toUInt32).toInt32) &&& (3 : Int32))), .val (.int y10), .val (.int y11), .val (.ref b13), .val (.ref b19), .unset, .unset] [])) st41 ?_
                      exact J172_23 _ _ _ X41 rfl N O (.ref r40) rfl E_b13 F_trackId_b13 F_playlistId_b13 B_wt B_wp E_b19 F_trackId_b19 F_playlistId_b19 B_wu (by rw [hc159_39]; exact B_r40)
                    · refine own_st (T' := T22) (F' := (mkF m 172 #[.val (.int x0), .val (.int x1), .val (.int x2), .val (.int x3), .val (.int x4), .val (.int b5), .val (.int b6), .val (.int b7), .val (.int b8), .val (.int (((x4.toUInt32 >>> ((4 : Int32) &&& 31).toUInt32).toInt32) &&& (3 : Int32))), .val (.int y10), .val (.int y11), .val (.ref b13), .val (.ref b19), .unset, .unset] [])) (fun t k => XS.ifYes X22.here hx rfl (pc0 := 159) (pc' := 172) rfl (hb hby at_159) rfl ((if0 _ _).trans (feq hc159_39).2) (by decide) (by decide) k) ?_
                      exact J172_23 _ _ _ (own_mono X22 (by decide) (by decide)) e22 N O .null rfl E_b13 F_trackId_b13 F_playlistId_b13 B_wt B_wp E_b19 F_trackId_b19 F_playlistId_b19 B_wu (Or.inl ⟨rfl, hb8.resolve_left hc159_39⟩)
                  refine own_st (T' := T20) (F' := (mkF m 144 #[.val (.int x0), .val (.int x1), .val (.int x2), .val (.int x3), .val (.int x4), .val (.int b5), .val (.int b6), .val (.int b7), .val (.int b8), .val (.int (((x4.toUInt32 >>> ((4 : Int32) &&& 31).toUInt32).toInt32) &&& (3 : Int32))), .val (.int y10), .val (.int y11), .val (.ref b13), .val (.ref b19), .unset, .unset] [(.int b7)])) (fun t k => XS.iload X20.here hx rfl (hb hby at_142) rfl k) ?_
                  by_cases hc144_42 : b7 = (0 : Int32)
                  · refine own_st (T' := T20) (F' := (mkF m 147 #[.val (.int x0), .val (.int x1), .val (.int x2), .val (.int x3), .val (.int x4), .val (.int b5), .val (.int b6), .val (.int b7), .val (.int b8), .val (.int (((x4.toUInt32 >>> ((4 : Int32) &&& 31).toUInt32).toInt32) &&& (3 : Int32))), .val (.int y10), .val (.int y11), .val (.ref b13), .val (.ref b19), .unset, .unset] [])) (fun t k => XS.ifNo X20.here hx rfl (hb hby at_144) rfl ((if0 _ _).trans (teq hc144_42).2) k) ?_
                    refine own_st (T' := T20) (F' := (mkF m 149 #[.val (.int x0), .val (.int x1), .val (.int x2), .val (.int x3), .val (.int x4), .val (.int b5), .val (.int b6), .val (.int b7), .val (.int b8), .val (.int (((x4.toUInt32 >>> ((4 : Int32) &&& 31).toUInt32).toInt32) &&& (3 : Int32))), .val (.int y10), .val (.int y11), .val (.ref b13), .val (.ref b19), .unset, .unset] [(.ref b19)])) (fun t k => XS.aload X20.here hx rfl (hb hby at_147) rfl rfl k) ?_
                    refine own_st (T' := T20) (F' := (mkF m 151 #[.val (.int x0), .val (.int x1), .val (.int x2), .val (.int x3), .val (.int x4), .val (.int b5), .val (.int b6), .val (.int b7), .val (.int b8), .val (.int (((x4.toUInt32 >>> ((4 : Int32) &&& 31).toUInt32).toInt32) &&& (3 : Int32))), .val (.int y10), .val (.int y11), .val (.ref b13), .val (.ref b19), .unset, .unset] [(.int y10), (.ref b19)])) (fun t k => XS.iload X20.here hx rfl (hb hby at_149) rfl k) ?_
                    obtain ⟨v43, _, ⟨T43, L43, k43, n43⟩, -, X43, ⟨Lc43, hQ43, l43, y43, z43⟩, st43⟩ := Jvm.LawKit.callS X20 hx (y := (⟨"java/lang/Integer", "valueOf", "(I)Ljava/lang/Integer;"⟩ : MethodName)) hown (mvT hZ (hw _ (List.mem_of_getElem? (i := 9) rfl))) (mvT hZ (hw _ (List.mem_of_getElem? (i := 10) rfl))) (mvT hZ (hw _ (List.mem_of_getElem? (i := 11) rfl))) (mvT hZ (hw _ (List.mem_of_getElem? (i := 12) rfl))) (by decide) (backOf (W := 1) (rm3 l Z a0 CX [] y10 T20.heap O) hZ (hw _ (List.mem_of_getElem? (i := 12) rfl)) (hw _ (List.mem_of_getElem? (i := 11) rfl)) (by decide) (by decide)) (g := (mkF m 151 #[.val (.int x0), .val (.int x1), .val (.int x2), .val (.int x3), .val (.int x4), .val (.int b5), .val (.int b6), .val (.int b7), .val (.int b8), .val (.int (((x4.toUInt32 >>> ((4 : Int32) &&& 31).toUInt32).toInt32) &&& (3 : Int32))), .val (.int y10), .val (.int y11), .val (.ref b13), .val (.ref b19), .unset, .unset] [(.int y10), (.ref b19)])) rfl (by rw [hml]; rfl) (argsL := [(.int y10)]) (rest := [(.ref b19)]) (lenOf pd_5 rfl) rfl (by show 2 * 0 + _ ≤ _; exact Nat.le_of_eq rfl) (hb hby at_151) (fun _ _ => ⟨rfl, rfl, (by decide : 4 + 1 ≤ _), (by decide : 6 + 1 ≤ _)⟩)
                    dsimp only [Pt.U, Pt.locs, Pt.cells, Pt.slots] at X43 l43 y43 z43 st43 hQ43
                    subst l43 y43 z43
                    obtain ⟨r43, rfl, N43q, E43, X_r43, F_r43⟩ := hQ43
                    have N := Fr.app N N43q
                    have B_wt := B_wt.ext E43
                    have B_wp := B_wp.ext E43
                    have E_b13 := E_b13.ext E43
                    have F_trackId_b13 := F_trackId_b13.ext E43
                    have F_playlistId_b13 := F_playlistId_b13.ext E43
                    have E_b19 := E_b19.ext E43
                    have F_trackId_b19 := F_trackId_b19.ext E43
                    have F_playlistId_b19 := F_playlistId_b19.ext E43
                    have O := own_ext_trans O E43
                    have B_r43 : own_Bx Z T43.heap (.ref r43) 0 y10 := Or.inr ⟨rfl, r43, rfl, X_r43, F_r43⟩
                    refine own_st (T' := T43) (F' := (mkF m 154 #[.val (.int x0), .val (.int x1), .val (.int x2), .val (.int x3), .val (.int x4), .val (.int b5), .val (.int b6), .val (.int b7), .val (.int b8), .val (.int (((x4.toUInt32 >>> ((4 : Int32) &&& 31).toUInt32).toInt32) &&& (3 : Int32))), .val (.int y10), .val (.int y11), .val (.ref b13), .val (.ref b19), .unset, .unset] [(.ref r43), (.ref b19)])) st43 ?_
                    obtain ⟨cq44, kq44, q44a, q44b, q44c⟩ := isOf hZ rfl E_b19
                    obtain ⟨v44, _, ⟨T44, L44, k44, n44⟩, -, X44, ⟨Lc44, hQ44, l44, y44, z44⟩, st44⟩ := X43.virtualBack hx (y := (⟨"com/example/entigate/entigate/sample/PlaylistTrackId", "setTrackId", "(Ljava/lang/Integer;)V"⟩ : MethodName)) (z := (⟨"com/example/entigate/entigate/sample/PlaylistTrackId", "setTrackId", "(Ljava/lang/Integer;)V"⟩ : MethodName)) hown (mvT hZ (hw _ (List.mem_of_getElem? (i := 16) rfl))) (mvT hZ (hw _ (List.mem_of_getElem? (i := 17) rfl))) (notFace_of_selects (args := #[]) (mvT hZ (hw _ (List.mem_of_getElem? (i := 19) rfl)))) (mvT hZ (hw _ (List.mem_of_getElem? (i := 19) rfl))) (mvT hZ (hw _ (List.mem_of_getElem? (i := 18) rfl))) (by decide) (backOf (W := 0) (rm4 l Z a0 CX [] b19 (.ref r43) rfl .null rfl .null rfl T43.heap O E_b19 g_b19 F_trackId_b19 F_playlistId_b19) hZ (hw _ (List.mem_of_getElem? (i := 20) rfl)) (hw _ (List.mem_of_getElem? (i := 2) rfl)) (by decide) (by decide)) q44a q44c (g := (mkF m 154 #[.val (.int x0), .val (.int x1), .val (.int x2), .val (.int x3), .val (.int x4), .val (.int b5), .val (.int b6), .val (.int b7), .val (.int b8), .val (.int (((x4.toUInt32 >>> ((4 : Int32) &&& 31).toUInt32).toInt32) &&& (3 : Int32))), .val (.int y10), .val (.int y11), .val (.ref b13), .val (.ref b19), .unset, .unset] [(.ref r43), (.ref b19)])) rfl (by rw [hml]; rfl) (Steps.refl _) (argsL := [(.ref r43)]) (rest := []) (lenOf pd_7 rfl) rfl (by show 2 * 0 + _ ≤ _; exact Nat.le_of_eq rfl) (hb hby at_154) (fun _ _ => ⟨rfl, rfl, (by decide : 5 + 0 ≤ _), (by decide : 7 + 0 ≤ _)⟩)
                    dsimp only [Pt.U, Pt.locs, Pt.cells, Pt.slots] at X44 l44 y44 z44 st44 hQ44
                    subst l44 y44 z44
                    obtain ⟨rfl, N44q, K44, F_trackId_b19, F_playlistId_b19⟩ := hQ44
                    have N := Fr.app N N44q
                    have B_wt := B_wt.keep K44 E_b19 (by decide)
                    have B_wp := B_wp.keep K44 E_b19 (by decide)
                    have B_r43 := B_r43.keep K44 E_b19 (by decide)
                    have E_b13 := E_b13.keep K44
                    have F_trackId_b13 := F_trackId_b13.keep K44 (ninS ne_b13_b19 nin0)
                    have F_playlistId_b13 := F_playlistId_b13.keep K44 (ninS ne_b13_b19 nin0)
                    have E_b19 := E_b19.keep K44
                    have O := own_O_keep O K44 (allS g_b19 all0)
                    refine own_tr (T' := T44) (F' := (mkF m 157 #[.val (.int x0), .val (.int x1), .val (.int x2), .val (.int x3), .val (.int x4), .val (.int b5), .val (.int b6), .val (.int b7), .val (.int b8), .val (.int (((x4.toUInt32 >>> ((4 : Int32) &&& 31).toUInt32).toInt32) &&& (3 : Int32))), .val (.int y10), .val (.int y11), .val (.ref b13), .val (.ref b19), .unset, .unset] [])) st44 ?_
                    exact J157_21 _ _ _ X44 rfl N O (.ref r43) rfl E_b13 F_trackId_b13 F_playlistId_b13 B_wt B_wp E_b19 F_trackId_b19 F_playlistId_b19 (by rw [hc144_42]; exact B_r43)
                  · refine own_st (T' := T20) (F' := (mkF m 157 #[.val (.int x0), .val (.int x1), .val (.int x2), .val (.int x3), .val (.int x4), .val (.int b5), .val (.int b6), .val (.int b7), .val (.int b8), .val (.int (((x4.toUInt32 >>> ((4 : Int32) &&& 31).toUInt32).toInt32) &&& (3 : Int32))), .val (.int y10), .val (.int y11), .val (.ref b13), .val (.ref b19), .unset, .unset] [])) (fun t k => XS.ifYes X20.here hx rfl (pc0 := 144) (pc' := 157) rfl (hb hby at_144) rfl ((if0 _ _).trans (feq hc144_42).2) (by decide) (by decide) k) ?_
                    exact J157_21 _ _ _ (own_mono X20 (by decide) (by decide)) rfl N O .null rfl E_b13 F_trackId_b13 F_playlistId_b13 B_wt B_wp E_b19 F_trackId_b19 F_playlistId_b19 (Or.inl ⟨rfl, hb7.resolve_left hc144_42⟩)
                refine own_st (T' := T16) (F' := (mkF m 121 #[.val (.int x0), .val (.int x1), .val (.int x2), .val (.int x3), .val (.int x4), .val (.int b5), .val (.int b6), .val (.int b7), .val (.int b8), .val (.int (((x4.toUInt32 >>> ((4 : Int32) &&& 31).toUInt32).toInt32) &&& (3 : Int32))), .val (.int y10), .val (.int y11), .val (.ref b13), .unset, .unset, .unset] [(.int b6)])) (fun t k => XS.iload X16.here hx rfl (hb hby at_119) rfl k) ?_
                by_cases hc121_45 : b6 = (0 : Int32)
                · refine own_st (T' := T16) (F' := (mkF m 124 #[.val (.int x0), .val (.int x1), .val (.int x2), .val (.int x3), .val (.int x4), .val (.int b5), .val (.int b6), .val (.int b7), .val (.int b8), .val (.int (((x4.toUInt32 >>> ((4 : Int32) &&& 31).toUInt32).toInt32) &&& (3 : Int32))), .val (.int y10), .val (.int y11), .val (.ref b13), .unset, .unset, .unset] [])) (fun t k => XS.ifNo X16.here hx rfl (hb hby at_121) rfl ((if0 _ _).trans (teq hc121_45).2) k) ?_
                  refine own_st (T' := T16) (F' := (mkF m 126 #[.val (.int x0), .val (.int x1), .val (.int x2), .val (.int x3), .val (.int x4), .val (.int b5), .val (.int b6), .val (.int b7), .val (.int b8), .val (.int (((x4.toUInt32 >>> ((4 : Int32) &&& 31).toUInt32).toInt32) &&& (3 : Int32))), .val (.int y10), .val (.int y11), .val (.ref b13), .unset, .unset, .unset] [(.ref b13)])) (fun t k => XS.aload X16.here hx rfl (hb hby at_124) rfl rfl k) ?_
                  refine own_st (T' := T16) (F' := (mkF m 127 #[.val (.int x0), .val (.int x1), .val (.int x2), .val (.int x3), .val (.int x4), .val (.int b5), .val (.int b6), .val (.int b7), .val (.int b8), .val (.int (((x4.toUInt32 >>> ((4 : Int32) &&& 31).toUInt32).toInt32) &&& (3 : Int32))), .val (.int y10), .val (.int y11), .val (.ref b13), .unset, .unset, .unset] [(.int x1), (.ref b13)])) (fun t k => XS.iloadN X16.here hx rfl (hb hby at_126) rfl k) ?_
                  obtain ⟨v46, _, ⟨T46, L46, k46, n46⟩, -, X46, ⟨Lc46, hQ46, l46, y46, z46⟩, st46⟩ := Jvm.LawKit.callS X16 hx (y := (⟨"java/lang/Integer", "valueOf", "(I)Ljava/lang/Integer;"⟩ : MethodName)) hown (mvT hZ (hw _ (List.mem_of_getElem? (i := 9) rfl))) (mvT hZ (hw _ (List.mem_of_getElem? (i := 10) rfl))) (mvT hZ (hw _ (List.mem_of_getElem? (i := 11) rfl))) (mvT hZ (hw _ (List.mem_of_getElem? (i := 12) rfl))) (by decide) (backOf (W := 1) (rm3 l Z a0 CX [] x1 h16 O) hZ (hw _ (List.mem_of_getElem? (i := 12) rfl)) (hw _ (List.mem_of_getElem? (i := 11) rfl)) (by decide) (by decide)) (g := (mkF m 127 #[.val (.int x0), .val (.int x1), .val (.int x2), .val (.int x3), .val (.int x4), .val (.int b5), .val (.int b6), .val (.int b7), .val (.int b8), .val (.int (((x4.toUInt32 >>> ((4 : Int32) &&& 31).toUInt32).toInt32) &&& (3 : Int32))), .val (.int y10), .val (.int y11), .val (.ref b13), .unset, .unset, .unset] [(.int x1), (.ref b13)])) rfl (by rw [hml]; rfl) (argsL := [(.int x1)]) (rest := [(.ref b13)]) (lenOf pd_5 rfl) rfl (by show 2 * 0 + _ ≤ _; exact Nat.le_of_eq rfl) (hb hby at_127) (fun _ _ => ⟨rfl, e16, (by decide : 2 + 1 ≤ _), (by decide : 3 + 1 ≤ _)⟩)
                  dsimp only [Pt.U, Pt.locs, Pt.cells, Pt.slots] at X46 l46 y46 z46 st46 hQ46
                  subst l46 y46 z46
                  obtain ⟨r46, rfl, N46q, E46, X_r46, F_r46⟩ := hQ46
                  have N := Fr.app N N46q
                  have B_wt := B_wt.ext E46
                  have E_b13 := E_b13.ext E46
                  have F_trackId_b13 := F_trackId_b13.ext E46
                  have F_playlistId_b13 := F_playlistId_b13.ext E46
                  have O := own_ext_trans O E46
                  have B_r46 : own_Bx Z T46.heap (.ref r46) 0 x1 := Or.inr ⟨rfl, r46, rfl, X_r46, F_r46⟩
                  refine own_st (T' := T46) (F' := (mkF m 130 #[.val (.int x0), .val (.int x1), .val (.int x2), .val (.int x3), .val (.int x4), .val (.int b5), .val (.int b6), .val (.int b7), .val (.int b8), .val (.int (((x4.toUInt32 >>> ((4 : Int32) &&& 31).toUInt32).toInt32) &&& (3 : Int32))), .val (.int y10), .val (.int y11), .val (.ref b13), .unset, .unset, .unset] [(.ref r46), (.ref b13)])) st46 ?_
                  obtain ⟨cq47, kq47, q47a, q47b, q47c⟩ := isOf hZ rfl E_b13
                  obtain ⟨v47, _, ⟨T47, L47, k47, n47⟩, -, X47, ⟨Lc47, hQ47, l47, y47, z47⟩, st47⟩ := X46.virtualBack hx (y := (⟨"com/example/entigate/entigate/sample/PlaylistTrackId", "setPlaylistId", "(Ljava/lang/Integer;)V"⟩ : MethodName)) (z := (⟨"com/example/entigate/entigate/sample/PlaylistTrackId", "setPlaylistId", "(Ljava/lang/Integer;)V"⟩ : MethodName)) hown (mvT hZ (hw _ (List.mem_of_getElem? (i := 23) rfl))) (mvT hZ (hw _ (List.mem_of_getElem? (i := 24) rfl))) (notFace_of_selects (args := #[]) (mvT hZ (hw _ (List.mem_of_getElem? (i := 26) rfl)))) (mvT hZ (hw _ (List.mem_of_getElem? (i := 26) rfl))) (mvT hZ (hw _ (List.mem_of_getElem? (i := 25) rfl))) (by decide) (backOf (W := 0) (rm5 l Z a0 CX [] b13 (.ref r46) rfl wt hwt .null rfl T46.heap O E_b13 g_b13 F_trackId_b13 F_playlistId_b13) hZ (hw _ (List.mem_of_getElem? (i := 27) rfl)) (hw _ (List.mem_of_getElem? (i := 2) rfl)) (by decide) (by decide)) q47a q47c (g := (mkF m 130 #[.val (.int x0), .val (.int x1), .val (.int x2), .val (.int x3), .val (.int x4), .val (.int b5), .val (.int b6), .val (.int b7), .val (.int b8), .val (.int (((x4.toUInt32 >>> ((4 : Int32) &&& 31).toUInt32).toInt32) &&& (3 : Int32))), .val (.int y10), .val (.int y11), .val (.ref b13), .unset, .unset, .unset] [(.ref r46), (.ref b13)])) rfl (by rw [hml]; rfl) (Steps.refl _) (argsL := [(.ref r46)]) (rest := []) (lenOf pd_7 rfl) rfl (by show 2 * 0 + _ ≤ _; exact Nat.le_of_eq rfl) (hb hby at_130) (fun _ _ => ⟨rfl, rfl, (by decide : 3 + 0 ≤ _), (by decide : 4 + 0 ≤ _)⟩)
                  dsimp only [Pt.U, Pt.locs, Pt.cells, Pt.slots] at X47 l47 y47 z47 st47 hQ47
                  subst l47 y47 z47
                  obtain ⟨rfl, N47q, K47, F_trackId_b13, F_playlistId_b13⟩ := hQ47
                  have N := Fr.app N N47q
                  have B_wt := B_wt.keep K47 E_b13 (by decide)
                  have B_r46 := B_r46.keep K47 E_b13 (by decide)
                  have E_b13 := E_b13.keep K47
                  have O := own_O_keep O K47 (allS g_b13 all0)
                  refine own_tr (T' := T47) (F' := (mkF m 133 #[.val (.int x0), .val (.int x1), .val (.int x2), .val (.int x3), .val (.int x4), .val (.int b5), .val (.int b6), .val (.int b7), .val (.int b8), .val (.int (((x4.toUInt32 >>> ((4 : Int32) &&& 31).toUInt32).toInt32) &&& (3 : Int32))), .val (.int y10), .val (.int y11), .val (.ref b13), .unset, .unset, .unset] [])) st47 ?_
                  exact J133_17 _ _ _ X47 rfl N O (.ref r46) rfl E_b13 F_trackId_b13 F_playlistId_b13 B_wt (by rw [hc121_45]; exact B_r46)
                · refine own_st (T' := T16) (F' := (mkF m 133 #[.val (.int x0), .val (.int x1), .val (.int x2), .val (.int x3), .val (.int x4), .val (.int b5), .val (.int b6), .val (.int b7), .val (.int b8), .val (.int (((x4.toUInt32 >>> ((4 : Int32) &&& 31).toUInt32).toInt32) &&& (3 : Int32))), .val (.int y10), .val (.int y11), .val (.ref b13), .unset, .unset, .unset] [])) (fun t k => XS.ifYes X16.here hx rfl (pc0 := 121) (pc' := 133) rfl (hb hby at_121) rfl ((if0 _ _).trans (feq hc121_45).2) (by decide) (by decide) k) ?_
                  exact J133_17 _ _ _ (own_mono X16 (by decide) (by decide)) e16 N O .null rfl E_b13 F_trackId_b13 F_playlistId_b13 B_wt (Or.inl ⟨rfl, hb6.resolve_left hc121_45⟩)
              refine own_st (T' := T14) (F' := (mkF m 107 #[.val (.int x0), .val (.int x1), .val (.int x2), .val (.int x3), .val (.int x4), .val (.int b5), .val (.int b6), .val (.int b7), .val (.int b8), .val (.int (((x4.toUInt32 >>> ((4 : Int32) &&& 31).toUInt32).toInt32) &&& (3 : Int32))), .val (.int y10), .val (.int y11), .val (.ref b13), .unset, .unset, .unset] [(.int b5)])) (fun t k => XS.iload X14.here hx rfl (hb hby at_105) rfl k) ?_
              by_cases hc107_48 : b5 = (0 : Int32)
              · refine own_st (T' := T14) (F' := (mkF m 110 #[.val (.int x0), .val (.int x1), .val (.int x2), .val (.int x3), .val (.int x4), .val (.int b5), .val (.int b6), .val (.int b7), .val (.int b8), .val (.int (((x4.toUInt32 >>> ((4 : Int32) &&& 31).toUInt32).toInt32) &&& (3 : Int32))), .val (.int y10), .val (.int y11), .val (.ref b13), .unset, .unset, .unset] [])) (fun t k => XS.ifNo X14.here hx rfl (hb hby at_107) rfl ((if0 _ _).trans (teq hc107_48).2) k) ?_
                refine own_st (T' := T14) (F' := (mkF m 112 #[.val (.int x0), .val (.int x1), .val (.int x2), .val (.int x3), .val (.int x4), .val (.int b5), .val (.int b6), .val (.int b7), .val (.int b8), .val (.int (((x4.toUInt32 >>> ((4 : Int32) &&& 31).toUInt32).toInt32) &&& (3 : Int32))), .val (.int y10), .val (.int y11), .val (.ref b13), .unset, .unset, .unset] [(.ref b13)])) (fun t k => XS.aload X14.here hx rfl (hb hby at_110) rfl rfl k) ?_
                refine own_st (T' := T14) (F' := (mkF m 113 #[.val (.int x0), .val (.int x1), .val (.int x2), .val (.int x3), .val (.int x4), .val (.int b5), .val (.int b6), .val (.int b7), .val (.int b8), .val (.int (((x4.toUInt32 >>> ((4 : Int32) &&& 31).toUInt32).toInt32) &&& (3 : Int32))), .val (.int y10), .val (.int y11), .val (.ref b13), .unset, .unset, .unset] [(.int x0), (.ref b13)])) (fun t k => XS.iloadN X14.here hx rfl (hb hby at_112) rfl k) ?_
                obtain ⟨v49, _, ⟨T49, L49, k49, n49⟩, -, X49, ⟨Lc49, hQ49, l49, y49, z49⟩, st49⟩ := Jvm.LawKit.callS X14 hx (y := (⟨"java/lang/Integer", "valueOf", "(I)Ljava/lang/Integer;"⟩ : MethodName)) hown (mvT hZ (hw _ (List.mem_of_getElem? (i := 9) rfl))) (mvT hZ (hw _ (List.mem_of_getElem? (i := 10) rfl))) (mvT hZ (hw _ (List.mem_of_getElem? (i := 11) rfl))) (mvT hZ (hw _ (List.mem_of_getElem? (i := 12) rfl))) (by decide) (backOf (W := 1) (rm3 l Z a0 CX [] x0 T14.heap O) hZ (hw _ (List.mem_of_getElem? (i := 12) rfl)) (hw _ (List.mem_of_getElem? (i := 11) rfl)) (by decide) (by decide)) (g := (mkF m 113 #[.val (.int x0), .val (.int x1), .val (.int x2), .val (.int x3), .val (.int x4), .val (.int b5), .val (.int b6), .val (.int b7), .val (.int b8), .val (.int (((x4.toUInt32 >>> ((4 : Int32) &&& 31).toUInt32).toInt32) &&& (3 : Int32))), .val (.int y10), .val (.int y11), .val (.ref b13), .unset, .unset, .unset] [(.int x0), (.ref b13)])) rfl (by rw [hml]; rfl) (argsL := [(.int x0)]) (rest := [(.ref b13)]) (lenOf pd_5 rfl) rfl (by show 2 * 0 + _ ≤ _; exact Nat.le_of_eq rfl) (hb hby at_113) (fun _ _ => ⟨rfl, rfl, (by decide : 1 + 1 ≤ _), (by decide : 2 + 1 ≤ _)⟩)
                dsimp only [Pt.U, Pt.locs, Pt.cells, Pt.slots] at X49 l49 y49 z49 st49 hQ49
                subst l49 y49 z49
                obtain ⟨r49, rfl, N49q, E49, X_r49, F_r49⟩ := hQ49
                have N := Fr.app N N49q
                have E_b13 := E_b13.ext E49
                have F_trackId_b13 := F_trackId_b13.ext E49
                have F_playlistId_b13 := F_playlistId_b13.ext E49
                have O := own_ext_trans O E49
                have B_r49 : own_Bx Z T49.heap (.ref r49) 0 x0 := Or.inr ⟨rfl, r49, rfl, X_r49, F_r49⟩
                refine own_st (T' := T49) (F' := (mkF m 116 #[.val (.int x0), .val (.int x1), .val (.int x2), .val (.int x3), .val (.int x4), .val (.int b5), .val (.int b6), .val (.int b7), .val (.int b8), .val (.int (((x4.toUInt32 >>> ((4 : Int32) &&& 31).toUInt32).toInt32) &&& (3 : Int32))), .val (.int y10), .val (.int y11), .val (.ref b13), .unset, .unset, .unset] [(.ref r49), (.ref b13)])) st49 ?_
                obtain ⟨cq50, kq50, q50a, q50b, q50c⟩ := isOf hZ rfl E_b13
                obtain ⟨v50, _, ⟨T50, L50, k50, n50⟩, -, X50, ⟨Lc50, hQ50, l50, y50, z50⟩, st50⟩ := X49.virtualBack hx (y := (⟨"com/example/entigate/entigate/sample/PlaylistTrackId", "setTrackId", "(Ljava/lang/Integer;)V"⟩ : MethodName)) (z := (⟨"com/example/entigate/entigate/sample/PlaylistTrackId", "setTrackId", "(Ljava/lang/Integer;)V"⟩ : MethodName)) hown (mvT hZ (hw _ (List.mem_of_getElem? (i := 16) rfl))) (mvT hZ (hw _ (List.mem_of_getElem? (i := 17) rfl))) (notFace_of_selects (args := #[]) (mvT hZ (hw _ (List.mem_of_getElem? (i := 19) rfl)))) (mvT hZ (hw _ (List.mem_of_getElem? (i := 19) rfl))) (mvT hZ (hw _ (List.mem_of_getElem? (i := 18) rfl))) (by decide) (backOf (W := 0) (rm4 l Z a0 CX [] b13 (.ref r49) rfl .null rfl .null rfl T49.heap O E_b13 g_b13 F_trackId_b13 F_playlistId_b13) hZ (hw _ (List.mem_of_getElem? (i := 20) rfl)) (hw _ (List.mem_of_getElem? (i := 2) rfl)) (by decide) (by decide)) q50a q50c (g := (mkF m 116 #[.val (.int x0), .val (.int x1), .val (.int x2), .val (.int x3), .val (.int x4), .val (.int b5), .val (.int b6), .val (.int b7), .val (.int b8), .val (.int (((x4.toUInt32 >>> ((4 : Int32) &&& 31).toUInt32).toInt32) &&& (3 : Int32))), .val (.int y10), .val (.int y11), .val (.ref b13), .unset, .unset, .unset] [(.ref r49), (.ref b13)])) rfl (by rw [hml]; rfl) (Steps.refl _) (argsL := [(.ref r49)]) (rest := []) (lenOf pd_7 rfl) rfl (by show 2 * 0 + _ ≤ _; exact Nat.le_of_eq rfl) (hb hby at_116) (fun _ _ => ⟨rfl, rfl, (by decide : 2 + 0 ≤ _), (by decide : 3 + 0 ≤ _)⟩)
                dsimp only [Pt.U, Pt.locs, Pt.cells, Pt.slots] at X50 l50 y50 z50 st50 hQ50
                subst l50 y50 z50
                obtain ⟨rfl, N50q, K50, F_trackId_b13, F_playlistId_b13⟩ := hQ50
                have N := Fr.app N N50q
                have B_r49 := B_r49.keep K50 E_b13 (by decide)
                have E_b13 := E_b13.keep K50
                have O := own_O_keep O K50 (allS g_b13 all0)
                refine own_tr (T' := T50) (F' := (mkF m 119 #[.val (.int x0), .val (.int x1), .val (.int x2), .val (.int x3), .val (.int x4), .val (.int b5), .val (.int b6), .val (.int b7), .val (.int b8), .val (.int (((x4.toUInt32 >>> ((4 : Int32) &&& 31).toUInt32).toInt32) &&& (3 : Int32))), .val (.int y10), .val (.int y11), .val (.ref b13), .unset, .unset, .unset] [])) st50 ?_
                exact J119_15 _ _ _ X50 rfl N O (.ref r49) rfl E_b13 F_trackId_b13 F_playlistId_b13 (by rw [hc107_48]; exact B_r49)
              · refine own_st (T' := T14) (F' := (mkF m 119 #[.val (.int x0), .val (.int x1), .val (.int x2), .val (.int x3), .val (.int x4), .val (.int b5), .val (.int b6), .val (.int b7), .val (.int b8), .val (.int (((x4.toUInt32 >>> ((4 : Int32) &&& 31).toUInt32).toInt32) &&& (3 : Int32))), .val (.int y10), .val (.int y11), .val (.ref b13), .unset, .unset, .unset] [])) (fun t k => XS.ifYes X14.here hx rfl (pc0 := 107) (pc' := 119) rfl (hb hby at_107) rfl ((if0 _ _).trans (feq hc107_48).2) (by decide) (by decide) k) ?_
                exact J119_15 _ _ _ (own_mono X14 (by decide) (by decide)) rfl N O .null rfl E_b13 F_trackId_b13 F_playlistId_b13 (Or.inl ⟨rfl, hb5.resolve_left hc107_48⟩)
            refine own_st (T' := T10) (F' := (mkF m 82 #[.val (.int x0), .val (.int x1), .val (.int x2), .val (.int x3), .val (.int x4), .val (.int b5), .val (.int b6), .val (.int b7), .val (.int b8), .val (.int (((x4.toUInt32 >>> ((4 : Int32) &&& 31).toUInt32).toInt32) &&& (3 : Int32))), .val (.int y10), .unset, .unset, .unset, .unset, .unset] [(.int x4)])) (fun t k => XS.iload X10.here hx rfl (hb hby at_80) rfl k) ?_
            refine own_st (T' := T10) (F' := (mkF m 85 #[.val (.int x0), .val (.int x1), .val (.int x2), .val (.int x3), .val (.int x4), .val (.int b5), .val (.int b6), .val (.int b7), .val (.int b8), .val (.int (((x4.toUInt32 >>> ((4 : Int32) &&& 31).toUInt32).toInt32) &&& (3 : Int32))), .val (.int y10), .unset, .unset, .unset, .unset, .unset] [(.int (128 : Int32)), (.int x4)])) (fun t k => XS.sipush X10.here hx rfl (hb hby at_82) k) ?_
            refine own_st (T' := T10) (F' := (mkF m 86 #[.val (.int x0), .val (.int x1), .val (.int x2), .val (.int x3), .val (.int x4), .val (.int b5), .val (.int b6), .val (.int b7), .val (.int b8), .val (.int (((x4.toUInt32 >>> ((4 : Int32) &&& 31).toUInt32).toInt32) &&& (3 : Int32))), .val (.int y10), .unset, .unset, .unset, .unset, .unset] [(.int (x4 &&& (128 : Int32)))])) (fun t k => XS.iand X10.here hx rfl (hb hby at_85) rfl k) ?_
            by_cases hc86_51 : (x4 &&& (128 : Int32)) = (0 : Int32)
            · refine own_st (T' := T10) (F' := (mkF m 93 #[.val (.int x0), .val (.int x1), .val (.int x2), .val (.int x3), .val (.int x4), .val (.int b5), .val (.int b6), .val (.int b7), .val (.int b8), .val (.int (((x4.toUInt32 >>> ((4 : Int32) &&& 31).toUInt32).toInt32) &&& (3 : Int32))), .val (.int y10), .unset, .unset, .unset, .unset, .unset] [])) (fun t k => XS.ifYes X10.here hx rfl (pc0 := 86) (pc' := 93) rfl (hb hby at_86) rfl ((if0 _ _).trans (teq hc86_51).1) (by decide) (by decide) k) ?_
              refine own_st (T' := T10) (F' := (mkF m 94 #[.val (.int x0), .val (.int x1), .val (.int x2), .val (.int x3), .val (.int x4), .val (.int b5), .val (.int b6), .val (.int b7), .val (.int b8), .val (.int (((x4.toUInt32 >>> ((4 : Int32) &&& 31).toUInt32).toInt32) &&& (3 : Int32))), .val (.int y10), .unset, .unset, .unset, .unset, .unset] [(.int x3)])) (fun t k => XS.iloadN X10.here hx rfl (hb hby at_93) rfl k) ?_
              refine own_st (T' := T10) (F' := (mkF m 96 #[.val (.int x0), .val (.int x1), .val (.int x2), .val (.int x3), .val (.int x4), .val (.int b5), .val (.int b6), .val (.int b7), .val (.int b8), .val (.int (((x4.toUInt32 >>> ((4 : Int32) &&& 31).toUInt32).toInt32) &&& (3 : Int32))), .val (.int y10), .val (.int x3), .unset, .unset, .unset, .unset] [])) (fun t k => XS.istore X10.here hx rfl (hb hby at_94) rfl (l' := #[.val (.int x0), .val (.int x1), .val (.int x2), .val (.int x3), .val (.int x4), .val (.int b5), .val (.int b6), .val (.int b7), .val (.int b8), .val (.int (((x4.toUInt32 >>> ((4 : Int32) &&& 31).toUInt32).toInt32) &&& (3 : Int32))), .val (.int y10), .val (.int x3), .unset, .unset, .unset, .unset]) rfl k) ?_
              exact J96_11 _ _ X10 e10 N x3
            · refine own_st (T' := T10) (F' := (mkF m 89 #[.val (.int x0), .val (.int x1), .val (.int x2), .val (.int x3), .val (.int x4), .val (.int b5), .val (.int b6), .val (.int b7), .val (.int b8), .val (.int (((x4.toUInt32 >>> ((4 : Int32) &&& 31).toUInt32).toInt32) &&& (3 : Int32))), .val (.int y10), .unset, .unset, .unset, .unset, .unset] [])) (fun t k => XS.ifNo X10.here hx rfl (hb hby at_86) rfl ((if0 _ _).trans (feq hc86_51).1) k) ?_
              refine own_st (T' := T10) (F' := (mkF m 90 #[.val (.int x0), .val (.int x1), .val (.int x2), .val (.int x3), .val (.int x4), .val (.int b5), .val (.int b6), .val (.int b7), .val (.int b8), .val (.int (((x4.toUInt32 >>> ((4 : Int32) &&& 31).toUInt32).toInt32) &&& (3 : Int32))), .val (.int y10), .unset, .unset, .unset, .unset, .unset] [(.int x1)])) (fun t k => XS.iloadN X10.here hx rfl (hb hby at_89) rfl k) ?_
              refine own_st (T' := T10) (F' := (mkF m 94 #[.val (.int x0), .val (.int x1), .val (.int x2), .val (.int x3), .val (.int x4), .val (.int b5), .val (.int b6), .val (.int b7), .val (.int b8), .val (.int (((x4.toUInt32 >>> ((4 : Int32) &&& 31).toUInt32).toInt32) &&& (3 : Int32))), .val (.int y10), .unset, .unset, .unset, .unset, .unset] [(.int x1)])) (fun t k => XS.goto X10.here hx rfl (pc0 := 90) (pc' := 94) rfl (hb hby at_90) (by decide) (by decide) k) ?_
              refine own_st (T' := T10) (F' := (mkF m 96 #[.val (.int x0), .val (.int x1), .val (.int x2), .val (.int x3), .val (.int x4), .val (.int b5), .val (.int b6), .val (.int b7), .val (.int b8), .val (.int (((x4.toUInt32 >>> ((4 : Int32) &&& 31).toUInt32).toInt32) &&& (3 : Int32))), .val (.int y10), .val (.int x1), .unset, .unset, .unset, .unset] [])) (fun t k => XS.istore X10.here hx rfl (hb hby at_94) rfl (l' := #[.val (.int x0), .val (.int x1), .val (.int x2), .val (.int x3), .val (.int x4), .val (.int b5), .val (.int b6), .val (.int b7), .val (.int b8), .val (.int (((x4.toUInt32 >>> ((4 : Int32) &&& 31).toUInt32).toInt32) &&& (3 : Int32))), .val (.int y10), .val (.int x1), .unset, .unset, .unset, .unset]) rfl k) ?_
              exact J96_11 _ _ X10 e10 N x1
          refine own_st (T' := T8) (F' := (mkF m 67 #[.val (.int x0), .val (.int x1), .val (.int x2), .val (.int x3), .val (.int x4), .val (.int b5), .val (.int b6), .val (.int b7), .val (.int b8), .val (.int (((x4.toUInt32 >>> ((4 : Int32) &&& 31).toUInt32).toInt32) &&& (3 : Int32))), .unset, .unset, .unset, .unset, .unset, .unset] [(.int x4)])) (fun t k => XS.iload X8.here hx rfl (hb hby at_65) rfl k) ?_
          refine own_st (T' := T8) (F' := (mkF m 69 #[.val (.int x0), .val (.int x1), .val (.int x2), .val (.int x3), .val (.int x4), .val (.int b5), .val (.int b6), .val (.int b7), .val (.int b8), .val (.int (((x4.toUInt32 >>> ((4 : Int32) &&& 31).toUInt32).toInt32) &&& (3 : Int32))), .unset, .unset, .unset, .unset, .unset, .unset] [(.int (64 : Int32)), (.int x4)])) (fun t k => XS.bipush X8.here hx rfl (hb hby at_67) k) ?_
          refine own_st (T' := T8) (F' := (mkF m 70 #[.val (.int x0), .val (.int x1), .val (.int x2), .val (.int x3), .val (.int x4), .val (.int b5), .val (.int b6), .val (.int b7), .val (.int b8), .val (.int (((x4.toUInt32 >>> ((4 : Int32) &&& 31).toUInt32).toInt32) &&& (3 : Int32))), .unset, .unset, .unset, .unset, .unset, .unset] [(.int (x4 &&& (64 : Int32)))])) (fun t k => XS.iand X8.here hx rfl (hb hby at_69) rfl k) ?_
          by_cases hc70_52 : (x4 &&& (64 : Int32)) = (0 : Int32)
          · refine own_st (T' := T8) (F' := (mkF m 77 #[.val (.int x0), .val (.int x1), .val (.int x2), .val (.int x3), .val (.int x4), .val (.int b5), .val (.int b6), .val (.int b7), .val (.int b8), .val (.int (((x4.toUInt32 >>> ((4 : Int32) &&& 31).toUInt32).toInt32) &&& (3 : Int32))), .unset, .unset, .unset, .unset, .unset, .unset] [])) (fun t k => XS.ifYes X8.here hx rfl (pc0 := 70) (pc' := 77) rfl (hb hby at_70) rfl ((if0 _ _).trans (teq hc70_52).1) (by decide) (by decide) k) ?_
            refine own_st (T' := T8) (F' := (mkF m 78 #[.val (.int x0), .val (.int x1), .val (.int x2), .val (.int x3), .val (.int x4), .val (.int b5), .val (.int b6), .val (.int b7), .val (.int b8), .val (.int (((x4.toUInt32 >>> ((4 : Int32) &&& 31).toUInt32).toInt32) &&& (3 : Int32))), .unset, .unset, .unset, .unset, .unset, .unset] [(.int x2)])) (fun t k => XS.iloadN X8.here hx rfl (hb hby at_77) rfl k) ?_
            refine own_st (T' := T8) (F' := (mkF m 80 #[.val (.int x0), .val (.int x1), .val (.int x2), .val (.int x3), .val (.int x4), .val (.int b5), .val (.int b6), .val (.int b7), .val (.int b8), .val (.int (((x4.toUInt32 >>> ((4 : Int32) &&& 31).toUInt32).toInt32) &&& (3 : Int32))), .val (.int x2), .unset, .unset, .unset, .unset, .unset] [])) (fun t k => XS.istore X8.here hx rfl (hb hby at_78) rfl (l' := #[.val (.int x0), .val (.int x1), .val (.int x2), .val (.int x3), .val (.int x4), .val (.int b5), .val (.int b6), .val (.int b7), .val (.int b8), .val (.int (((x4.toUInt32 >>> ((4 : Int32) &&& 31).toUInt32).toInt32) &&& (3 : Int32))), .val (.int x2), .unset, .unset, .unset, .unset, .unset]) rfl k) ?_
            exact J80_9 _ _ X8 e8 N x2
          · refine own_st (T' := T8) (F' := (mkF m 73 #[.val (.int x0), .val (.int x1), .val (.int x2), .val (.int x3), .val (.int x4), .val (.int b5), .val (.int b6), .val (.int b7), .val (.int b8), .val (.int (((x4.toUInt32 >>> ((4 : Int32) &&& 31).toUInt32).toInt32) &&& (3 : Int32))), .unset, .unset, .unset, .unset, .unset, .unset] [])) (fun t k => XS.ifNo X8.here hx rfl (hb hby at_70) rfl ((if0 _ _).trans (feq hc70_52).1) k) ?_
            refine own_st (T' := T8) (F' := (mkF m 74 #[.val (.int x0), .val (.int x1), .val (.int x2), .val (.int x3), .val (.int x4), .val (.int b5), .val (.int b6), .val (.int b7), .val (.int b8), .val (.int (((x4.toUInt32 >>> ((4 : Int32) &&& 31).toUInt32).toInt32) &&& (3 : Int32))), .unset, .unset, .unset, .unset, .unset, .unset] [(.int x0)])) (fun t k => XS.iloadN X8.here hx rfl (hb hby at_73) rfl k) ?_
            refine own_st (T' := T8) (F' := (mkF m 78 #[.val (.int x0), .val (.int x1), .val (.int x2), .val (.int x3), .val (.int x4), .val (.int b5), .val (.int b6), .val (.int b7), .val (.int b8), .val (.int (((x4.toUInt32 >>> ((4 : Int32) &&& 31).toUInt32).toInt32) &&& (3 : Int32))), .unset, .unset, .unset, .unset, .unset, .unset] [(.int x0)])) (fun t k => XS.goto X8.here hx rfl (pc0 := 74) (pc' := 78) rfl (hb hby at_74) (by decide) (by decide) k) ?_
            refine own_st (T' := T8) (F' := (mkF m 80 #[.val (.int x0), .val (.int x1), .val (.int x2), .val (.int x3), .val (.int x4), .val (.int b5), .val (.int b6), .val (.int b7), .val (.int b8), .val (.int (((x4.toUInt32 >>> ((4 : Int32) &&& 31).toUInt32).toInt32) &&& (3 : Int32))), .val (.int x0), .unset, .unset, .unset, .unset, .unset] [])) (fun t k => XS.istore X8.here hx rfl (hb hby at_78) rfl (l' := #[.val (.int x0), .val (.int x1), .val (.int x2), .val (.int x3), .val (.int x4), .val (.int b5), .val (.int b6), .val (.int b7), .val (.int b8), .val (.int (((x4.toUInt32 >>> ((4 : Int32) &&& 31).toUInt32).toInt32) &&& (3 : Int32))), .val (.int x0), .unset, .unset, .unset, .unset, .unset]) rfl k) ?_
            exact J80_9 _ _ X8 e8 N x0
        refine own_st (T' := T6) (F' := (mkF m 44 #[.val (.int x0), .val (.int x1), .val (.int x2), .val (.int x3), .val (.int x4), .val (.int b5), .val (.int b6), .val (.int b7), .unset, .unset, .unset, .unset, .unset, .unset, .unset, .unset] [(.int x4)])) (fun t k => XS.iload X6.here hx rfl (hb hby at_42) rfl k) ?_
        refine own_st (T' := T6) (F' := (mkF m 46 #[.val (.int x0), .val (.int x1), .val (.int x2), .val (.int x3), .val (.int x4), .val (.int b5), .val (.int b6), .val (.int b7), .unset, .unset, .unset, .unset, .unset, .unset, .unset, .unset] [(.int (8 : Int32)), (.int x4)])) (fun t k => XS.bipush X6.here hx rfl (hb hby at_44) k) ?_
        refine own_st (T' := T6) (F' := (mkF m 47 #[.val (.int x0), .val (.int x1), .val (.int x2), .val (.int x3), .val (.int x4), .val (.int b5), .val (.int b6), .val (.int b7), .unset, .unset, .unset, .unset, .unset, .unset, .unset, .unset] [(.int (x4 &&& (8 : Int32)))])) (fun t k => XS.iand X6.here hx rfl (hb hby at_46) rfl k) ?_
        by_cases hc47_53 : (x4 &&& (8 : Int32)) = (0 : Int32)
        · refine own_st (T' := T6) (F' := (mkF m 54 #[.val (.int x0), .val (.int x1), .val (.int x2), .val (.int x3), .val (.int x4), .val (.int b5), .val (.int b6), .val (.int b7), .unset, .unset, .unset, .unset, .unset, .unset, .unset, .unset] [])) (fun t k => XS.ifYes X6.here hx rfl (pc0 := 47) (pc' := 54) rfl (hb hby at_47) rfl ((if0 _ _).trans (teq hc47_53).1) (by decide) (by decide) k) ?_
          refine own_st (T' := T6) (F' := (mkF m 55 #[.val (.int x0), .val (.int x1), .val (.int x2), .val (.int x3), .val (.int x4), .val (.int b5), .val (.int b6), .val (.int b7), .unset, .unset, .unset, .unset, .unset, .unset, .unset, .unset] [(.int (0 : Int32))])) (fun t k => XS.iconst X6.here hx rfl (hb hby at_54) k) ?_
          refine own_st (T' := T6) (F' := (mkF m 57 #[.val (.int x0), .val (.int x1), .val (.int x2), .val (.int x3), .val (.int x4), .val (.int b5), .val (.int b6), .val (.int b7), .val (.int (0 : Int32)), .unset, .unset, .unset, .unset, .unset, .unset, .unset] [])) (fun t k => XS.istore X6.here hx rfl (hb hby at_55) rfl (l' := #[.val (.int x0), .val (.int x1), .val (.int x2), .val (.int x3), .val (.int x4), .val (.int b5), .val (.int b6), .val (.int b7), .val (.int (0 : Int32)), .unset, .unset, .unset, .unset, .unset, .unset, .unset]) rfl k) ?_
          exact J57_7 _ _ X6 e6 N (0 : Int32) (by first | exact Or.inl rfl | exact Or.inr rfl)
        · refine own_st (T' := T6) (F' := (mkF m 50 #[.val (.int x0), .val (.int x1), .val (.int x2), .val (.int x3), .val (.int x4), .val (.int b5), .val (.int b6), .val (.int b7), .unset, .unset, .unset, .unset, .unset, .unset, .unset, .unset] [])) (fun t k => XS.ifNo X6.here hx rfl (hb hby at_47) rfl ((if0 _ _).trans (feq hc47_53).1) k) ?_
          refine own_st (T' := T6) (F' := (mkF m 51 #[.val (.int x0), .val (.int x1), .val (.int x2), .val (.int x3), .val (.int x4), .val (.int b5), .val (.int b6), .val (.int b7), .unset, .unset, .unset, .unset, .unset, .unset, .unset, .unset] [(.int (1 : Int32))])) (fun t k => XS.iconst X6.here hx rfl (hb hby at_50) k) ?_
          refine own_st (T' := T6) (F' := (mkF m 55 #[.val (.int x0), .val (.int x1), .val (.int x2), .val (.int x3), .val (.int x4), .val (.int b5), .val (.int b6), .val (.int b7), .unset, .unset, .unset, .unset, .unset, .unset, .unset, .unset] [(.int (1 : Int32))])) (fun t k => XS.goto X6.here hx rfl (pc0 := 51) (pc' := 55) rfl (hb hby at_51) (by decide) (by decide) k) ?_
          refine own_st (T' := T6) (F' := (mkF m 57 #[.val (.int x0), .val (.int x1), .val (.int x2), .val (.int x3), .val (.int x4), .val (.int b5), .val (.int b6), .val (.int b7), .val (.int (1 : Int32)), .unset, .unset, .unset, .unset, .unset, .unset, .unset] [])) (fun t k => XS.istore X6.here hx rfl (hb hby at_55) rfl (l' := #[.val (.int x0), .val (.int x1), .val (.int x2), .val (.int x3), .val (.int x4), .val (.int b5), .val (.int b6), .val (.int b7), .val (.int (1 : Int32)), .unset, .unset, .unset, .unset, .unset, .unset, .unset]) rfl k) ?_
          exact J57_7 _ _ X6 e6 N (1 : Int32) (by first | exact Or.inl rfl | exact Or.inr rfl)
      refine own_st (T' := T4) (F' := (mkF m 30 #[.val (.int x0), .val (.int x1), .val (.int x2), .val (.int x3), .val (.int x4), .val (.int b5), .val (.int b6), .unset, .unset, .unset, .unset, .unset, .unset, .unset, .unset, .unset] [(.int x4)])) (fun t k => XS.iload X4.here hx rfl (hb hby at_28) rfl k) ?_
      refine own_st (T' := T4) (F' := (mkF m 31 #[.val (.int x0), .val (.int x1), .val (.int x2), .val (.int x3), .val (.int x4), .val (.int b5), .val (.int b6), .unset, .unset, .unset, .unset, .unset, .unset, .unset, .unset, .unset] [(.int (4 : Int32)), (.int x4)])) (fun t k => XS.iconst X4.here hx rfl (hb hby at_30) k) ?_
      refine own_st (T' := T4) (F' := (mkF m 32 #[.val (.int x0), .val (.int x1), .val (.int x2), .val (.int x3), .val (.int x4), .val (.int b5), .val (.int b6), .unset, .unset, .unset, .unset, .unset, .unset, .unset, .unset, .unset] [(.int (x4 &&& (4 : Int32)))])) (fun t k => XS.iand X4.here hx rfl (hb hby at_31) rfl k) ?_
      by_cases hc32_54 : (x4 &&& (4 : Int32)) = (0 : Int32)
      · refine own_st (T' := T4) (F' := (mkF m 39 #[.val (.int x0), .val (.int x1), .val (.int x2), .val (.int x3), .val (.int x4), .val (.int b5), .val (.int b6), .unset, .unset, .unset, .unset, .unset, .unset, .unset, .unset, .unset] [])) (fun t k => XS.ifYes X4.here hx rfl (pc0 := 32) (pc' := 39) rfl (hb hby at_32) rfl ((if0 _ _).trans (teq hc32_54).1) (by decide) (by decide) k) ?_
        refine own_st (T' := T4) (F' := (mkF m 40 #[.val (.int x0), .val (.int x1), .val (.int x2), .val (.int x3), .val (.int x4), .val (.int b5), .val (.int b6), .unset, .unset, .unset, .unset, .unset, .unset, .unset, .unset, .unset] [(.int (0 : Int32))])) (fun t k => XS.iconst X4.here hx rfl (hb hby at_39) k) ?_
        refine own_st (T' := T4) (F' := (mkF m 42 #[.val (.int x0), .val (.int x1), .val (.int x2), .val (.int x3), .val (.int x4), .val (.int b5), .val (.int b6), .val (.int (0 : Int32)), .unset, .unset, .unset, .unset, .unset, .unset, .unset, .unset] [])) (fun t k => XS.istore X4.here hx rfl (hb hby at_40) rfl (l' := #[.val (.int x0), .val (.int x1), .val (.int x2), .val (.int x3), .val (.int x4), .val (.int b5), .val (.int b6), .val (.int (0 : Int32)), .unset, .unset, .unset, .unset, .unset, .unset, .unset, .unset]) rfl k) ?_
        exact J42_5 _ _ X4 e4 N (0 : Int32) (by first | exact Or.inl rfl | exact Or.inr rfl)
      · refine own_st (T' := T4) (F' := (mkF m 35 #[.val (.int x0), .val (.int x1), .val (.int x2), .val (.int x3), .val (.int x4), .val (.int b5), .val (.int b6), .unset, .unset, .unset, .unset, .unset, .unset, .unset, .unset, .unset] [])) (fun t k => XS.ifNo X4.here hx rfl (hb hby at_32) rfl ((if0 _ _).trans (feq hc32_54).1) k) ?_
        refine own_st (T' := T4) (F' := (mkF m 36 #[.val (.int x0), .val (.int x1), .val (.int x2), .val (.int x3), .val (.int x4), .val (.int b5), .val (.int b6), .unset, .unset, .unset, .unset, .unset, .unset, .unset, .unset, .unset] [(.int (1 : Int32))])) (fun t k => XS.iconst X4.here hx rfl (hb hby at_35) k) ?_
        refine own_st (T' := T4) (F' := (mkF m 40 #[.val (.int x0), .val (.int x1), .val (.int x2), .val (.int x3), .val (.int x4), .val (.int b5), .val (.int b6), .unset, .unset, .unset, .unset, .unset, .unset, .unset, .unset, .unset] [(.int (1 : Int32))])) (fun t k => XS.goto X4.here hx rfl (pc0 := 36) (pc' := 40) rfl (hb hby at_36) (by decide) (by decide) k) ?_
        refine own_st (T' := T4) (F' := (mkF m 42 #[.val (.int x0), .val (.int x1), .val (.int x2), .val (.int x3), .val (.int x4), .val (.int b5), .val (.int b6), .val (.int (1 : Int32)), .unset, .unset, .unset, .unset, .unset, .unset, .unset, .unset] [])) (fun t k => XS.istore X4.here hx rfl (hb hby at_40) rfl (l' := #[.val (.int x0), .val (.int x1), .val (.int x2), .val (.int x3), .val (.int x4), .val (.int b5), .val (.int b6), .val (.int (1 : Int32)), .unset, .unset, .unset, .unset, .unset, .unset, .unset, .unset]) rfl k) ?_
        exact J42_5 _ _ X4 e4 N (1 : Int32) (by first | exact Or.inl rfl | exact Or.inr rfl)
    refine own_st (T' := T2) (F' := (mkF m 16 #[.val (.int x0), .val (.int x1), .val (.int x2), .val (.int x3), .val (.int x4), .val (.int b5), .unset, .unset, .unset, .unset, .unset, .unset, .unset, .unset, .unset, .unset] [(.int x4)])) (fun t k => XS.iload X2.here hx rfl (hb hby at_14) rfl k) ?_
    refine own_st (T' := T2) (F' := (mkF m 17 #[.val (.int x0), .val (.int x1), .val (.int x2), .val (.int x3), .val (.int x4), .val (.int b5), .unset, .unset, .unset, .unset, .unset, .unset, .unset, .unset, .unset, .unset] [(.int (2 : Int32)), (.int x4)])) (fun t k => XS.iconst X2.here hx rfl (hb hby at_16) k) ?_
    refine own_st (T' := T2) (F' := (mkF m 18 #[.val (.int x0), .val (.int x1), .val (.int x2), .val (.int x3), .val (.int x4), .val (.int b5), .unset, .unset, .unset, .unset, .unset, .unset, .unset, .unset, .unset, .unset] [(.int (x4 &&& (2 : Int32)))])) (fun t k => XS.iand X2.here hx rfl (hb hby at_17) rfl k) ?_
    by_cases hc18_55 : (x4 &&& (2 : Int32)) = (0 : Int32)
    · refine own_st (T' := T2) (F' := (mkF m 25 #[.val (.int x0), .val (.int x1), .val (.int x2), .val (.int x3), .val (.int x4), .val (.int b5), .unset, .unset, .unset, .unset, .unset, .unset, .unset, .unset, .unset, .unset] [])) (fun t k => XS.ifYes X2.here hx rfl (pc0 := 18) (pc' := 25) rfl (hb hby at_18) rfl ((if0 _ _).trans (teq hc18_55).1) (by decide) (by decide) k) ?_
      refine own_st (T' := T2) (F' := (mkF m 26 #[.val (.int x0), .val (.int x1), .val (.int x2), .val (.int x3), .val (.int x4), .val (.int b5), .unset, .unset, .unset, .unset, .unset, .unset, .unset, .unset, .unset, .unset] [(.int (0 : Int32))])) (fun t k => XS.iconst X2.here hx rfl (hb hby at_25) k) ?_
      refine own_st (T' := T2) (F' := (mkF m 28 #[.val (.int x0), .val (.int x1), .val (.int x2), .val (.int x3), .val (.int x4), .val (.int b5), .val (.int (0 : Int32)), .unset, .unset, .unset, .unset, .unset, .unset, .unset, .unset, .unset] [])) (fun t k => XS.istore X2.here hx rfl (hb hby at_26) rfl (l' := #[.val (.int x0), .val (.int x1), .val (.int x2), .val (.int x3), .val (.int x4), .val (.int b5), .val (.int (0 : Int32)), .unset, .unset, .unset, .unset, .unset, .unset, .unset, .unset, .unset]) rfl k) ?_
      exact J28_3 _ _ X2 e2 N (0 : Int32) (by first | exact Or.inl rfl | exact Or.inr rfl)
    · refine own_st (T' := T2) (F' := (mkF m 21 #[.val (.int x0), .val (.int x1), .val (.int x2), .val (.int x3), .val (.int x4), .val (.int b5), .unset, .unset, .unset, .unset, .unset, .unset, .unset, .unset, .unset, .unset] [])) (fun t k => XS.ifNo X2.here hx rfl (hb hby at_18) rfl ((if0 _ _).trans (feq hc18_55).1) k) ?_
      refine own_st (T' := T2) (F' := (mkF m 22 #[.val (.int x0), .val (.int x1), .val (.int x2), .val (.int x3), .val (.int x4), .val (.int b5), .unset, .unset, .unset, .unset, .unset, .unset, .unset, .unset, .unset, .unset] [(.int (1 : Int32))])) (fun t k => XS.iconst X2.here hx rfl (hb hby at_21) k) ?_
      refine own_st (T' := T2) (F' := (mkF m 26 #[.val (.int x0), .val (.int x1), .val (.int x2), .val (.int x3), .val (.int x4), .val (.int b5), .unset, .unset, .unset, .unset, .unset, .unset, .unset, .unset, .unset, .unset] [(.int (1 : Int32))])) (fun t k => XS.goto X2.here hx rfl (pc0 := 22) (pc' := 26) rfl (hb hby at_22) (by decide) (by decide) k) ?_
      refine own_st (T' := T2) (F' := (mkF m 28 #[.val (.int x0), .val (.int x1), .val (.int x2), .val (.int x3), .val (.int x4), .val (.int b5), .val (.int (1 : Int32)), .unset, .unset, .unset, .unset, .unset, .unset, .unset, .unset, .unset] [])) (fun t k => XS.istore X2.here hx rfl (hb hby at_26) rfl (l' := #[.val (.int x0), .val (.int x1), .val (.int x2), .val (.int x3), .val (.int x4), .val (.int b5), .val (.int (1 : Int32)), .unset, .unset, .unset, .unset, .unset, .unset, .unset, .unset, .unset]) rfl k) ?_
      exact J28_3 _ _ X2 e2 N (1 : Int32) (by first | exact Or.inl rfl | exact Or.inr rfl)
  refine own_st (T' := s₁) (F' := (mkF m 2 #[.val (.int x0), .val (.int x1), .val (.int x2), .val (.int x3), .val (.int x4), .unset, .unset, .unset, .unset, .unset, .unset, .unset, .unset, .unset, .unset, .unset] [(.int x4)])) (fun t k => XS.iload X0.here hx rfl (hb hby at_0) rfl k) ?_
  refine own_st (T' := s₁) (F' := (mkF m 3 #[.val (.int x0), .val (.int x1), .val (.int x2), .val (.int x3), .val (.int x4), .unset, .unset, .unset, .unset, .unset, .unset, .unset, .unset, .unset, .unset, .unset] [(.int (1 : Int32)), (.int x4)])) (fun t k => XS.iconst X0.here hx rfl (hb hby at_2) k) ?_
  refine own_st (T' := s₁) (F' := (mkF m 4 #[.val (.int x0), .val (.int x1), .val (.int x2), .val (.int x3), .val (.int x4), .unset, .unset, .unset, .unset, .unset, .unset, .unset, .unset, .unset, .unset, .unset] [(.int (x4 &&& (1 : Int32)))])) (fun t k => XS.iand X0.here hx rfl (hb hby at_3) rfl k) ?_
  by_cases hc4_56 : (x4 &&& (1 : Int32)) = (0 : Int32)
  · refine own_st (T' := s₁) (F' := (mkF m 11 #[.val (.int x0), .val (.int x1), .val (.int x2), .val (.int x3), .val (.int x4), .unset, .unset, .unset, .unset, .unset, .unset, .unset, .unset, .unset, .unset, .unset] [])) (fun t k => XS.ifYes X0.here hx rfl (pc0 := 4) (pc' := 11) rfl (hb hby at_4) rfl ((if0 _ _).trans (teq hc4_56).1) (by decide) (by decide) k) ?_
    refine own_st (T' := s₁) (F' := (mkF m 12 #[.val (.int x0), .val (.int x1), .val (.int x2), .val (.int x3), .val (.int x4), .unset, .unset, .unset, .unset, .unset, .unset, .unset, .unset, .unset, .unset, .unset] [(.int (0 : Int32))])) (fun t k => XS.iconst X0.here hx rfl (hb hby at_11) k) ?_
    refine own_st (T' := s₁) (F' := (mkF m 14 #[.val (.int x0), .val (.int x1), .val (.int x2), .val (.int x3), .val (.int x4), .val (.int (0 : Int32)), .unset, .unset, .unset, .unset, .unset, .unset, .unset, .unset, .unset, .unset] [])) (fun t k => XS.istore X0.here hx rfl (hb hby at_12) rfl (l' := #[.val (.int x0), .val (.int x1), .val (.int x2), .val (.int x3), .val (.int x4), .val (.int (0 : Int32)), .unset, .unset, .unset, .unset, .unset, .unset, .unset, .unset, .unset, .unset]) rfl k) ?_
    exact J14_1 _ _ X0 e0 N (0 : Int32) (by first | exact Or.inl rfl | exact Or.inr rfl)
  · refine own_st (T' := s₁) (F' := (mkF m 7 #[.val (.int x0), .val (.int x1), .val (.int x2), .val (.int x3), .val (.int x4), .unset, .unset, .unset, .unset, .unset, .unset, .unset, .unset, .unset, .unset, .unset] [])) (fun t k => XS.ifNo X0.here hx rfl (hb hby at_4) rfl ((if0 _ _).trans (feq hc4_56).1) k) ?_
    refine own_st (T' := s₁) (F' := (mkF m 8 #[.val (.int x0), .val (.int x1), .val (.int x2), .val (.int x3), .val (.int x4), .unset, .unset, .unset, .unset, .unset, .unset, .unset, .unset, .unset, .unset, .unset] [(.int (1 : Int32))])) (fun t k => XS.iconst X0.here hx rfl (hb hby at_7) k) ?_
    refine own_st (T' := s₁) (F' := (mkF m 12 #[.val (.int x0), .val (.int x1), .val (.int x2), .val (.int x3), .val (.int x4), .unset, .unset, .unset, .unset, .unset, .unset, .unset, .unset, .unset, .unset, .unset] [(.int (1 : Int32))])) (fun t k => XS.goto X0.here hx rfl (pc0 := 8) (pc' := 12) rfl (hb hby at_8) (by decide) (by decide) k) ?_
    refine own_st (T' := s₁) (F' := (mkF m 14 #[.val (.int x0), .val (.int x1), .val (.int x2), .val (.int x3), .val (.int x4), .val (.int (1 : Int32)), .unset, .unset, .unset, .unset, .unset, .unset, .unset, .unset, .unset, .unset] [])) (fun t k => XS.istore X0.here hx rfl (hb hby at_12) rfl (l' := #[.val (.int x0), .val (.int x1), .val (.int x2), .val (.int x3), .val (.int x4), .val (.int (1 : Int32)), .unset, .unset, .unset, .unset, .unset, .unset, .unset, .unset, .unset, .unset]) rfl k) ?_
    exact J14_1 _ _ X0 e0 N (1 : Int32) (by first | exact Or.inl rfl | exact Or.inr rfl)
set_option maxRecDepth 65536 in
set_option maxHeartbeats 40000000 in
theorem comes_1 {Post : Tables → Env → Array Value → State → Outcome → State → Prop} (hpost : ∀ tb e args s v u, (limb_1_1.after args s (.returned v) u = true ∧ limb_1_2.after args s (.returned v) u = true ∧ True) → FrameEnd s (.returned v) u (Jvm.fieldLocs frame_1_writes args s ++ Jvm.arrayLocs frame_1_arrays args s ++ Jvm.staticLocs frame_1_statics s) 24 128 → Post tb e args s (.returned v) u) :
    ArmFor flags0 classFile x code maxLocals ret World_1 tables_1 room_1 Calls_1 rest_1 Pre_1 Post := by
  intro l hfl _ _ p e ha hc hk s m args below hf hA hF happ hP
  obtain ⟨hcalls, hrest, hpre⟩ := hP
  obtain ⟨-, -, -, hnamed, -, -, -, hat⟩ := (Spec.applies_iff hf).mp happ
  obtain ⟨hg, hn⟩ := and_e (Cond.before_iff.mp (show (Jvm.Cond.and given_1 narrow_1).before args s = true from hpre))
  obtain ⟨g0, g1⟩ := and_e hg
  obtain ⟨g2, g3⟩ := and_e g1
  obtain ⟨g4, g5⟩ := and_e g3
  obtain ⟨g6, g7⟩ := and_e g5
  obtain ⟨g8, g9⟩ := and_e g7
  obtain ⟨w0, w1, w2, w3, w4, rfl⟩ : ∃ w0 w1 w2 w3 w4 : Value, args = #[w0, w1, w2, w3, w4] := by
    have hs : args.size = 5 := by simpa [Cond.value, given_1] using g0
    obtain ⟨L⟩ := args
    match L, hs with
    | [w0, w1, w2, w3, w4], _ => exact ⟨w0, w1, w2, w3, w4, rfl⟩
  have hw := fun d (hd : d ∈ tables_1) => atoms_spec (ws := Jvm.Cond.code x code maxLocals ret :: tables_1) hat d (List.mem_cons_of_mem _ hd)
  have hfit : Fit s := fun {y c} hc i hi => by
    obtain ⟨ha, rfl⟩ := Array.getElem?_eq_some_iff.mp hc
    have q := List.all_eq_true.mp ((Array.all_eq_true_iff_forall_mem.mp hF) _ (Array.getElem_mem ha)) i (List.mem_range.mpr hi)
    simpa [Array.getElem?_eq_getElem hi] using q
  obtain ⟨i0, ei0⟩ := is_v g2
  obtain rfl : w0 = (.int i0) := Option.some.inj ei0
  obtain ⟨i1, ei1⟩ := is_v g4
  obtain rfl : w1 = (.int i1) := Option.some.inj ei1
  obtain ⟨i2, ei2⟩ := is_v g6
  obtain rfl : w2 = (.int i2) := Option.some.inj ei2
  obtain ⟨i3, ei3⟩ := is_v g8
  obtain rfl : w3 = (.int i3) := Option.some.inj ei3
  obtain ⟨i4, ei4⟩ := is_v g9
  obtain rfl : w4 = (.int i4) := Option.some.inj ei4
  obtain ⟨hsets, hown0⟩ := atoms_of _ (rest_1_c_eq ▸ (show rest_1_c.before _ s = true from hrest))
  have S_ih := Sta.start (own_eq_int (Cond.before_iff.mp (hsets _ (List.mem_of_getElem? (i := 3) rfl)))) (Or.inl (hsets _ (List.mem_of_getElem? (i := 1) rfl)))
  obtain ⟨w_ic, v_ic⟩ := arr_v (Cond.before_iff.mp (hsets _ (List.mem_of_getElem? (i := 4) rfl)))
  have S_ic := Sta.start v_ic (Or.inr ⟨(own_initFor (hsets _ (List.mem_of_getElem? (i := 1) rfl)) (hsets _ (List.mem_of_getElem? (i := 0) rfl))), (hsets _ (List.mem_of_getElem? (i := 2) rfl))⟩)
  obtain ⟨cl_ic, A_ic⟩ := Arr.start v_ic (Cond.before_iff.mp (hsets _ (List.mem_of_getElem? (i := 4) rfl)))
  obtain ⟨zi1, zi2⟩ := own_len (own_eq_int (Cond.before_iff.mp (hsets _ (List.mem_of_getElem? (i := 6) rfl)))) v_ic A_ic.1
  have B_ic : Bxs s w_ic cl_ic "java/lang/Integer" "I" 256 (fun j => .int (j - 128)) := Bxs.start (fun idx => v_ic) A_ic zi1 zi2 (by decide) (Cond.before_iff.mp (hsets _ (List.mem_of_getElem? (i := 7) rfl))) (fun X j hj h => eqv_i (own_sub_at (idx_at hj) rfl) h)
  have CX : Ctx s _ w_ic cl_ic := ⟨hw, S_ih, S_ic, B_ic, trivial⟩
  obtain ⟨n, o, h1, h2, h3, _, L, rfl, ⟨rfl, N⟩, hq⟩ := rm0 l s _ CX tables_1 i0 i1 i2 i3 i4 s.heap (own_ext_refl _)  p e ha hc hk s m _ below hf ((Spec.applies_iff_loose hf).mp happ).1 ⟨rfl, State.Warmed39.refl s, rfl⟩ trivial
  refine ⟨n, _, h1, h2, h3, hpost _ _ _ _ _ _ ⟨Cond.after_iff.mpr rfl, Cond.after_iff.mpr (eq_i res_at (Term.int_eval (1)) rfl), trivial⟩ ⟨hq.1, hq.2.1, (hq.2.2.sift fun y hy => Or.inr (N y hy)).mono (by decide) (by decide)⟩⟩
theorem main_1_1 : Claimed_1_1 := comes_1 fun _ _ _ _ _ _ h hF => ⟨h.1, hF⟩
theorem main_1_2 : Claimed_1_2 := comes_1 fun _ _ _ _ _ _ h hF => ⟨h.2.1, hF⟩
end Jvm.Pilot.@@N@@
namespace Jvm.Pilot.@@N@@
open Jvm Jvm.ClassFile Sem Op Lib Jvm.Free Jvm.Stand Jvm.Pilot.@@N@@.Jvm.D
/-! MADE BY PROGRAM (witnessworld.py) out of the Statement's table words and the real class files: 17 classes; the members and pool entries that the words name. The judged class is class 1, her method 1. -/
namespace start1
open Jvm.ClassFile
def u (s : String) : CpInfo := .utf8 (stringToUtf16 s)
/-- a pool by its gaps: so many unusable entries, then the entry; so many at the end -/
def gap : Nat → List CpInfo → List CpInfo
  | 0, r => r
  | n + 1, r => .unusable :: gap n r
def poolList (es : List (Nat × CpInfo)) (last : Nat) : List CpInfo := es.foldr (fun e r => gap e.1 (e.2 :: r)) (gap last [])
def pool (es : List (Nat × CpInfo)) (last : Nat) : Array CpInfo := ⟨poolList es last⟩
def fileOf (pool : Array CpInfo) (this : Nat) (attrs : Array Attribute := #[]) (ms : Array MethodInfo := #[]) (fl : Nat := 33) (sup : Nat := 0) (ifs : Array Nat := #[]) (fds : Array FieldInfo := #[]) : ClassFile where
  minorVersion := 0
  majorVersion := 65
  constantPool := pool
  accessFlags := fl
  thisClass := this
  superClass := sup
  interfaces := ifs
  fields := fds
  methods := ms
  attributes := attrs
def plain (name : String) (sup : Option ClassId) : Class where
  name := name
  kind := .ordinary
  loader := none
  accessFlags := 33
  super := sup
  interfaces := #[]
  cf := none
  fields := #[]
  methods := #[]
  instanceTypes := #[]
  staticTypes := #[]
  resolved := #[]
  callSites := []
  init := .initialized
  statics := none
  mirror := none

def pool0 : Array CpInfo := pool [(5, u "<init>"), (0, u "()V"), (1, .class_ 10), (1, u "java/lang/Object"), (81, u "equals"), (0, u "(Ljava/lang/Object;)Z")] 30

def k0c0 : Code := { maxStack := 0, maxLocals := 1, code := object_method_1_code, exceptionTable := #[], attributes := #[] }
def k0m0 : Method := { name := "<init>", desc := "()V", sig := { parameters := [], returnType := none }, accessFlags := 1, code := some k0c0 }
def k0c1 : Code := { maxStack := 2, maxLocals := 2, code := ⟨#[0x2a, 0x2b, 0xa6, 0x00, 0x07, 0x04, 0xa7, 0x00, 0x04, 0x03, 0xac]⟩, exceptionTable := #[], attributes := #[] }
def k0m1 : Method := { name := "equals", desc := "(Ljava/lang/Object;)Z", sig := { parameters := [(.object "java/lang/Object")], returnType := some .boolean }, accessFlags := 1, code := some k0c1 }
/-- java/lang/Object -/
def k0 : Class := { plain "java/lang/Object" none with
  accessFlags := 33
  interfaces := #[]
  cf := some (fileOf pool0 8 #[] #[{ accessFlags := 1, nameIndex := 5, descriptorIndex := 6, attributes := #[] }, { accessFlags := 1, nameIndex := 92, descriptorIndex := 93, attributes := #[] }] 33 0 #[] #[])
  fields := #[]
  methods := #[k0m0, k0m1]
  instanceTypes := #[]
  staticTypes := #[]
  resolved := Array.replicate 124 none
  statics := none }

def pool1 : Array CpInfo := pool [(2, .class_ 4), (0, .nameAndType 5 6), (0, u "java/lang/Object"), (0, u "<init>"), (0, u "()V"), (0, .class_ 8), (0, u "com/example/entigate/entigate/sample/PlaylistTrackId"), (0, .methodref 7 3), (0, .methodref 11 12), (0, .class_ 13), (0, .nameAndType 14 15), (0, u "java/lang/Integer"), (0, u "valueOf"), (0, u "(I)Ljava/lang/Integer;"), (0, .methodref 7 17), (0, .nameAndType 18 19), (0, u "setTrackId"), (0, u "(Ljava/lang/Integer;)V"), (0, .methodref 7 21), (0, .nameAndType 22 19), (0, u "setPlaylistId"), (0, .methodref 24 25), (0, .class_ 26), (0, .nameAndType 27 28), (0, u "com/example/entigate/entigate/sample/PlaylistTrackIdEqualsPinLaw"), (0, u "sameField"), (0, u "(ZIZI)Z"), (0, .methodref 7 30), (0, .nameAndType 31 32), (0, u "equals"), (0, u "(Ljava/lang/Object;)Z"), (2, u "law"), (0, u "(IIIII)Z")] 3

def k1m0 : Method := { name := "<init>", desc := "()V", sig := { parameters := [], returnType := none }, accessFlags := 1, code := none }
def k1c1 : Code := { maxStack := 4, maxLocals := 16, code := code, exceptionTable := #[], attributes := #[] }
def k1m1 : Method := { name := "law", desc := "(IIIII)Z", sig := { parameters := [.int, .int, .int, .int, .int], returnType := some .boolean }, accessFlags := 9, code := some k1c1 }
def k1c2 : Code := { maxStack := 2, maxLocals := 4, code := method_3_code, exceptionTable := #[], attributes := #[] }
def k1m2 : Method := { name := "sameField", desc := "(ZIZI)Z", sig := { parameters := [.boolean, .int, .boolean, .int], returnType := some .boolean }, accessFlags := 10, code := some k1c2 }
/-- com/example/entigate/entigate/sample/PlaylistTrackIdEqualsPinLaw -/
def k1 : Class := { plain "com/example/entigate/entigate/sample/PlaylistTrackIdEqualsPinLaw" (some 0) with
  accessFlags := 49
  interfaces := #[]
  cf := some (fileOf pool1 24 #[] #[{ accessFlags := 1, nameIndex := 5, descriptorIndex := 6, attributes := #[] }, { accessFlags := 9, nameIndex := 35, descriptorIndex := 36, attributes := #[] }, { accessFlags := 10, nameIndex := 27, descriptorIndex := 28, attributes := #[] }] 49 2 #[] #[])
  fields := #[]
  methods := #[k1m0, k1m1, k1m2]
  instanceTypes := #[]
  staticTypes := #[]
  resolved := Array.replicate 40 none
  statics := none }

def pool2 : Array CpInfo := pool [(1, .class_ 2), (0, u "java/io/Serializable"), (0, .class_ 4), (0, u "java/lang/Object")] 2

/-- java/io/Serializable -/
def k2 : Class := { plain "java/io/Serializable" (some 0) with
  accessFlags := 1537
  interfaces := #[]
  cf := some (fileOf pool2 1 #[] #[] 1537 3 #[] #[])
  fields := #[]
  methods := #[]
  instanceTypes := #[]
  staticTypes := #[]
  resolved := Array.replicate 7 none
  statics := none }

def pool3 : Array CpInfo := pool [(1, .methodref 2 3), (0, .class_ 4), (0, .nameAndType 5 6), (0, u "java/lang/Object"), (0, u "<init>"), (0, u "()V"), (0, .fieldref 8 9), (0, .class_ 10), (0, .nameAndType 11 12), (0, u "com/example/entigate/entigate/sample/PlaylistTrackId"), (0, u "trackId"), (0, u "Ljava/lang/Integer;"), (0, .fieldref 8 14), (0, .nameAndType 15 12), (0, u "playlistId"), (0, .methodref 17 18), (0, .class_ 19), (0, .nameAndType 20 21), (0, u "java/util/Objects"), (0, u "equals"), (0, u "(Ljava/lang/Object;Ljava/lang/Object;)Z"), (4, .class_ 27), (0, u "java/io/Serializable"), (0, u "serialVersionUID"), (0, u "J"), (8, u "setTrackId"), (0, u "(Ljava/lang/Integer;)V"), (1, u "setPlaylistId"), (0, u "(Ljava/lang/Object;)Z")] 5

def k3c0 : Code := { maxStack := 1, maxLocals := 1, code := prog_2_method_1_code, exceptionTable := #[], attributes := #[] }
def k3m0 : Method := { name := "<init>", desc := "()V", sig := { parameters := [], returnType := none }, accessFlags := 1, code := some k3c0 }
def k3c1 : Code := { maxStack := 2, maxLocals := 2, code := prog_2_method_4_code, exceptionTable := #[], attributes := #[] }
def k3m1 : Method := { name := "setTrackId", desc := "(Ljava/lang/Integer;)V", sig := { parameters := [(.object "java/lang/Integer")], returnType := none }, accessFlags := 1, code := some k3c1 }
def k3c2 : Code := { maxStack := 2, maxLocals := 2, code := prog_2_method_6_code, exceptionTable := #[], attributes := #[] }
def k3m2 : Method := { name := "setPlaylistId", desc := "(Ljava/lang/Integer;)V", sig := { parameters := [(.object "java/lang/Integer")], returnType := none }, accessFlags := 1, code := some k3c2 }
def k3c3 : Code := { maxStack := 2, maxLocals := 3, code := prog_2_method_7_code, exceptionTable := #[], attributes := #[] }
def k3m3 : Method := { name := "equals", desc := "(Ljava/lang/Object;)Z", sig := { parameters := [(.object "java/lang/Object")], returnType := some .boolean }, accessFlags := 1, code := some k3c3 }
/-- com/example/entigate/entigate/sample/PlaylistTrackId -/
def k3 : Class := { plain "com/example/entigate/entigate/sample/PlaylistTrackId" (some 0) with
  accessFlags := 33
  interfaces := #[2]
  cf := some (fileOf pool3 8 #[] #[{ accessFlags := 1, nameIndex := 5, descriptorIndex := 6, attributes := #[] }, { accessFlags := 1, nameIndex := 38, descriptorIndex := 39, attributes := #[] }, { accessFlags := 1, nameIndex := 41, descriptorIndex := 39, attributes := #[] }, { accessFlags := 1, nameIndex := 20, descriptorIndex := 42, attributes := #[] }] 33 2 #[26] #[{ accessFlags := 26, nameIndex := 28, descriptorIndex := 29, attributes := #[] }, { accessFlags := 2, nameIndex := 11, descriptorIndex := 12, attributes := #[] }, { accessFlags := 2, nameIndex := 15, descriptorIndex := 12, attributes := #[] }])
  fields := #[{ name := "serialVersionUID", type := .long, accessFlags := 26, slot := 0, constantValue := 0 }, { name := "trackId", type := (.object "java/lang/Integer"), accessFlags := 2, slot := 0, constantValue := 0 }, { name := "playlistId", type := (.object "java/lang/Integer"), accessFlags := 2, slot := 1, constantValue := 0 }]
  methods := #[k3m0, k3m1, k3m2, k3m3]
  instanceTypes := #[(.object "java/lang/Integer"), (.object "java/lang/Integer")]
  staticTypes := #[.long]
  resolved := Array.replicate 48 none
  statics := none }

def pool4 : Array CpInfo := pool [(1, .methodref 2 3), (0, .class_ 4), (0, .nameAndType 5 6), (0, u "java/lang/Object"), (0, u "<init>"), (0, u "()V"), (1, .class_ 10), (1, u "java/lang/Number"), (2, .class_ 14), (0, u "java/io/Serializable"), (0, u "serialVersionUID"), (0, u "J")] 20

def k4c0 : Code := { maxStack := 1, maxLocals := 1, code := jdk_18_method_1_code, exceptionTable := #[], attributes := #[] }
def k4m0 : Method := { name := "<init>", desc := "()V", sig := { parameters := [], returnType := none }, accessFlags := 1, code := some k4c0 }
/-- java/lang/Number -/
def k4 : Class := { plain "java/lang/Number" (some 0) with
  accessFlags := 1057
  interfaces := #[2]
  cf := some (fileOf pool4 8 #[] #[{ accessFlags := 1, nameIndex := 5, descriptorIndex := 6, attributes := #[] }] 1057 2 #[13] #[{ accessFlags := 26, nameIndex := 15, descriptorIndex := 16, attributes := #[] }])
  fields := #[{ name := "serialVersionUID", type := .long, accessFlags := 26, slot := 0, constantValue := 0 }]
  methods := #[k4m0]
  instanceTypes := #[]
  staticTypes := #[.long]
  resolved := Array.replicate 37 none
  statics := none }

def pool5 : Array CpInfo := pool [(1, .class_ 2), (0, u "java/lang/Comparable"), (0, .class_ 4), (0, u "java/lang/Object")] 7

/-- java/lang/Comparable -/
def k5 : Class := { plain "java/lang/Comparable" (some 0) with
  accessFlags := 1537
  interfaces := #[]
  cf := some (fileOf pool5 1 #[] #[] 1537 3 #[] #[])
  fields := #[]
  methods := #[]
  instanceTypes := #[]
  staticTypes := #[]
  resolved := Array.replicate 12 none
  statics := none }

def pool6 : Array CpInfo := pool [(1, .class_ 2), (0, u "java/lang/constant/Constable"), (0, .class_ 4), (0, u "java/lang/Object")] 6

/-- java/lang/constant/Constable -/
def k6 : Class := { plain "java/lang/constant/Constable" (some 0) with
  accessFlags := 1537
  interfaces := #[]
  cf := some (fileOf pool6 1 #[] #[] 1537 3 #[] #[])
  fields := #[]
  methods := #[]
  instanceTypes := #[]
  staticTypes := #[]
  resolved := Array.replicate 11 none
  statics := none }

def pool7 : Array CpInfo := pool [(1, .class_ 2), (0, u "java/lang/constant/ConstantDesc"), (0, .class_ 4), (0, u "java/lang/Object")] 32

/-- java/lang/constant/ConstantDesc -/
def k7 : Class := { plain "java/lang/constant/ConstantDesc" (some 0) with
  accessFlags := 1537
  interfaces := #[]
  cf := some (fileOf pool7 1 #[] #[] 1537 3 #[] #[])
  fields := #[]
  methods := #[]
  instanceTypes := #[]
  staticTypes := #[]
  resolved := Array.replicate 37 none
  statics := none }

def pool8 : Array CpInfo := pool [(1, .class_ 2), (0, u "java/lang/Integer"), (16, u "digits"), (0, u "[C"), (46, u "<init>"), (17, u "DigitOnes"), (0, u "[B"), (2, u "DigitTens"), (10, .nameAndType 67 101), (0, u "()V"), (19, u "()I"), (65, u "valueOf"), (0, u "(I)Ljava/lang/Integer;"), (0, .class_ 190), (0, u "java/lang/Integer$IntegerCache"), (0, .fieldref 189 192), (0, .nameAndType 193 194), (0, u "high"), (0, u "I"), (0, .fieldref 189 196), (0, .nameAndType 197 198), (0, u "cache"), (0, u "[Ljava/lang/Integer;"), (0, .methodref 1 200), (0, .nameAndType 67 201), (0, u "(I)V"), (0, .methodref 203 100), (0, .class_ 204), (0, u "java/lang/Number"), (0, .fieldref 1 206), (0, .nameAndType 207 194), (0, u "value"), (3, .methodref 1 212), (0, .nameAndType 213 121), (0, u "intValue"), (88, u "TYPE"), (0, u "Ljava/lang/Class;"), (0, .class_ 305), (0, u "java/lang/Comparable"), (0, .class_ 307), (0, u "java/lang/constant/Constable"), (0, .class_ 309), (0, u "java/lang/constant/ConstantDesc"), (0, u "MIN_VALUE"), (1, u "MAX_VALUE"), (3, u "SIZE"), (1, u "BYTES"), (1, u "serialVersionUID"), (0, u "J"), (63, u "equals"), (0, u "(Ljava/lang/Object;)Z")] 66

def k8c0 : Code := { maxStack := 3, maxLocals := 1, code := jdk_33_method_22_code, exceptionTable := #[], attributes := #[] }
def k8m0 : Method := { name := "valueOf", desc := "(I)Ljava/lang/Integer;", sig := { parameters := [.int], returnType := some (.object "java/lang/Integer") }, accessFlags := 9, code := some k8c0 }
def k8c1 : Code := { maxStack := 2, maxLocals := 2, code := jdk_33_method_23_code, exceptionTable := #[], attributes := #[] }
def k8m1 : Method := { name := "<init>", desc := "(I)V", sig := { parameters := [.int], returnType := none }, accessFlags := 1, code := some k8c1 }
def k8c2 : Code := { maxStack := 1, maxLocals := 1, code := jdk_33_method_27_code, exceptionTable := #[], attributes := #[] }
def k8m2 : Method := { name := "intValue", desc := "()I", sig := { parameters := [], returnType := some .int }, accessFlags := 1, code := some k8c2 }
def k8c3 : Code := { maxStack := 2, maxLocals := 2, code := jdk_33_method_34_code, exceptionTable := #[], attributes := #[] }
def k8m3 : Method := { name := "equals", desc := "(Ljava/lang/Object;)Z", sig := { parameters := [(.object "java/lang/Object")], returnType := some .boolean }, accessFlags := 1, code := some k8c3 }
/-- java/lang/Integer -/
def k8 : Class := { plain "java/lang/Integer" (some 4) with
  accessFlags := 49
  interfaces := #[5, 6, 7]
  cf := some (fileOf pool8 1 #[.nestMembers #[189]] #[{ accessFlags := 9, nameIndex := 187, descriptorIndex := 188, attributes := #[] }, { accessFlags := 1, nameIndex := 67, descriptorIndex := 201, attributes := #[] }, { accessFlags := 1, nameIndex := 213, descriptorIndex := 121, attributes := #[] }, { accessFlags := 1, nameIndex := 385, descriptorIndex := 386, attributes := #[] }] 49 203 #[304, 306, 308] #[{ accessFlags := 25, nameIndex := 310, descriptorIndex := 194, attributes := #[] }, { accessFlags := 25, nameIndex := 312, descriptorIndex := 194, attributes := #[] }, { accessFlags := 25, nameIndex := 302, descriptorIndex := 303, attributes := #[] }, { accessFlags := 24, nameIndex := 19, descriptorIndex := 20, attributes := #[] }, { accessFlags := 24, nameIndex := 89, descriptorIndex := 86, attributes := #[] }, { accessFlags := 24, nameIndex := 85, descriptorIndex := 86, attributes := #[] }, { accessFlags := 18, nameIndex := 207, descriptorIndex := 194, attributes := #[] }, { accessFlags := 25, nameIndex := 316, descriptorIndex := 194, attributes := #[] }, { accessFlags := 25, nameIndex := 318, descriptorIndex := 194, attributes := #[] }, { accessFlags := 26, nameIndex := 320, descriptorIndex := 321, attributes := #[] }])
  fields := #[{ name := "MIN_VALUE", type := .int, accessFlags := 25, slot := 0, constantValue := 0 }, { name := "MAX_VALUE", type := .int, accessFlags := 25, slot := 1, constantValue := 0 }, { name := "TYPE", type := (.object "java/lang/Class"), accessFlags := 25, slot := 2, constantValue := 0 }, { name := "digits", type := (.array .char), accessFlags := 24, slot := 3, constantValue := 0 }, { name := "DigitTens", type := (.array .byte), accessFlags := 24, slot := 4, constantValue := 0 }, { name := "DigitOnes", type := (.array .byte), accessFlags := 24, slot := 5, constantValue := 0 }, { name := "value", type := .int, accessFlags := 18, slot := 0, constantValue := 0 }, { name := "SIZE", type := .int, accessFlags := 25, slot := 6, constantValue := 0 }, { name := "BYTES", type := .int, accessFlags := 25, slot := 7, constantValue := 0 }, { name := "serialVersionUID", type := .long, accessFlags := 26, slot := 8, constantValue := 0 }]
  methods := #[k8m0, k8m1, k8m2, k8m3]
  instanceTypes := #[.int]
  staticTypes := #[.int, .int, (.object "java/lang/Class"), (.array .char), (.array .byte), (.array .byte), .int, .int, .long]
  resolved := Array.replicate 453 none
  statics := none }

def pool9 : Array CpInfo := pool [(2, .class_ 4), (1, u "java/lang/Object"), (0, u "<init>"), (0, u "()V"), (0, .class_ 8), (0, u "java/lang/Integer"), (7, .class_ 18), (1, u "java/lang/Integer$IntegerCache"), (0, u "$assertionsDisabled"), (0, u "Z"), (26, u "high"), (0, u "I"), (8, u "archivedCache"), (0, u "[Ljava/lang/Integer;"), (12, u "cache"), (0, u "low")] 27

def k9m0 : Method := { name := "<init>", desc := "()V", sig := { parameters := [], returnType := none }, accessFlags := 2, code := none }
/-- java/lang/Integer$IntegerCache -/
def k9 : Class := { plain "java/lang/Integer$IntegerCache" (some 0) with
  accessFlags := 48
  interfaces := #[]
  cf := some (fileOf pool9 16 #[.nestHost 7] #[{ accessFlags := 2, nameIndex := 5, descriptorIndex := 6, attributes := #[] }] 48 2 #[] #[{ accessFlags := 24, nameIndex := 72, descriptorIndex := 48, attributes := #[] }, { accessFlags := 24, nameIndex := 47, descriptorIndex := 48, attributes := #[] }, { accessFlags := 24, nameIndex := 71, descriptorIndex := 58, attributes := #[] }, { accessFlags := 8, nameIndex := 57, descriptorIndex := 58, attributes := #[] }, { accessFlags := 4120, nameIndex := 19, descriptorIndex := 20, attributes := #[] }])
  fields := #[{ name := "low", type := .int, accessFlags := 24, slot := 0, constantValue := 0 }, { name := "high", type := .int, accessFlags := 24, slot := 1, constantValue := 0 }, { name := "cache", type := (.array (.object "java/lang/Integer")), accessFlags := 24, slot := 2, constantValue := 0 }, { name := "archivedCache", type := (.array (.object "java/lang/Integer")), accessFlags := 8, slot := 3, constantValue := 0 }, { name := "$assertionsDisabled", type := .boolean, accessFlags := 4120, slot := 4, constantValue := 0 }]
  methods := #[k9m0]
  instanceTypes := #[]
  staticTypes := #[.int, .int, (.array (.object "java/lang/Integer")), (.array (.object "java/lang/Integer")), .boolean]
  resolved := Array.replicate 100 none
  statics := some 0 }

def pool10 : Array CpInfo := pool [(2, .class_ 4), (1, u "java/lang/Object"), (0, u "<init>"), (0, u "()V"), (7, .methodref 2 15), (0, .nameAndType 16 17), (0, u "equals"), (0, u "(Ljava/lang/Object;)Z"), (5, u "(Ljava/lang/Object;Ljava/lang/Object;)Z"), (18, .class_ 44), (1, u "java/util/Objects")] 139

def k10m0 : Method := { name := "<init>", desc := "()V", sig := { parameters := [], returnType := none }, accessFlags := 2, code := none }
def k10c1 : Code := { maxStack := 2, maxLocals := 2, code := jdk_31_method_2_code, exceptionTable := #[], attributes := #[] }
def k10m1 : Method := { name := "equals", desc := "(Ljava/lang/Object;Ljava/lang/Object;)Z", sig := { parameters := [(.object "java/lang/Object"), (.object "java/lang/Object")], returnType := some .boolean }, accessFlags := 9, code := some k10c1 }
/-- java/util/Objects -/
def k10 : Class := { plain "java/util/Objects" (some 0) with
  accessFlags := 49
  interfaces := #[]
  cf := some (fileOf pool10 42 #[] #[{ accessFlags := 2, nameIndex := 5, descriptorIndex := 6, attributes := #[] }, { accessFlags := 9, nameIndex := 16, descriptorIndex := 23, attributes := #[] }] 49 2 #[] #[])
  fields := #[]
  methods := #[k10m0, k10m1]
  instanceTypes := #[]
  staticTypes := #[]
  resolved := Array.replicate 184 none
  statics := none }

def pool11 : Array CpInfo := pool [(1, u "java/lang/Cloneable"), (0, .class_ 1), (0, u "java/lang/Object"), (0, .class_ 3)] 3

/-- java/lang/Cloneable -/
def k11 : Class := { plain "java/lang/Cloneable" (some 0) with
  accessFlags := 1537
  interfaces := #[]
  cf := some (fileOf pool11 2 #[] #[] 1537 4 #[] #[])
  fields := #[]
  methods := #[]
  instanceTypes := #[]
  staticTypes := #[]
  resolved := Array.replicate 8 none
  statics := none }

/-- the primitive byte -/
def k12 : Class := { plain "byte" none with kind := .primitive 'B', accessFlags := 0x411 }
/-- [B -/
def k13 : Class := { plain "[B" (some 0) with kind := .array 12 .byte, interfaces := #[11, 2], accessFlags := 1041 }

/-- the primitive int -/
def k14 : Class := { plain "int" none with kind := .primitive 'I', accessFlags := 0x411 }
/-- [I -/
def k15 : Class := { plain "[I" (some 0) with kind := .array 14 .int, interfaces := #[11, 2], accessFlags := 1041 }

/-- [Ljava/lang/Integer; -/
def k16 : Class := { plain "[Ljava/lang/Integer;" (some 0) with kind := .array 8 (.object "java/lang/Integer"), interfaces := #[11, 2], accessFlags := 1041 }

def heap : Heap := #[{ cls := 9, slots := #[.int 0, .int 127, .ref 1, .null, .int 0], vm := .statics 9 },
  { cls := 16, slots := #[.ref 2, .ref 3, .ref 4, .ref 5, .ref 6, .ref 7, .ref 8, .ref 9, .ref 10, .ref 11, .ref 12, .ref 13, .ref 14, .ref 15, .ref 16, .ref 17, .ref 18, .ref 19, .ref 20, .ref 21, .ref 22, .ref 23, .ref 24, .ref 25, .ref 26, .ref 27, .ref 28, .ref 29, .ref 30, .ref 31, .ref 32, .ref 33, .ref 34, .ref 35, .ref 36, .ref 37, .ref 38, .ref 39, .ref 40, .ref 41, .ref 42, .ref 43, .ref 44, .ref 45, .ref 46, .ref 47, .ref 48, .ref 49, .ref 50, .ref 51, .ref 52, .ref 53, .ref 54, .ref 55, .ref 56, .ref 57, .ref 58, .ref 59, .ref 60, .ref 61, .ref 62, .ref 63, .ref 64, .ref 65, .ref 66, .ref 67, .ref 68, .ref 69, .ref 70, .ref 71, .ref 72, .ref 73, .ref 74, .ref 75, .ref 76, .ref 77, .ref 78, .ref 79, .ref 80, .ref 81, .ref 82, .ref 83, .ref 84, .ref 85, .ref 86, .ref 87, .ref 88, .ref 89, .ref 90, .ref 91, .ref 92, .ref 93, .ref 94, .ref 95, .ref 96, .ref 97, .ref 98, .ref 99, .ref 100, .ref 101, .ref 102, .ref 103, .ref 104, .ref 105, .ref 106, .ref 107, .ref 108, .ref 109, .ref 110, .ref 111, .ref 112, .ref 113, .ref 114, .ref 115, .ref 116, .ref 117, .ref 118, .ref 119, .ref 120, .ref 121, .ref 122, .ref 123, .ref 124, .ref 125, .ref 126, .ref 127, .ref 128, .ref 129, .ref 130, .ref 131, .ref 132, .ref 133, .ref 134, .ref 135, .ref 136, .ref 137, .ref 138, .ref 139, .ref 140, .ref 141, .ref 142, .ref 143, .ref 144, .ref 145, .ref 146, .ref 147, .ref 148, .ref 149, .ref 150, .ref 151, .ref 152, .ref 153, .ref 154, .ref 155, .ref 156, .ref 157, .ref 158, .ref 159, .ref 160, .ref 161, .ref 162, .ref 163, .ref 164, .ref 165, .ref 166, .ref 167, .ref 168, .ref 169, .ref 170, .ref 171, .ref 172, .ref 173, .ref 174, .ref 175, .ref 176, .ref 177, .ref 178, .ref 179, .ref 180, .ref 181, .ref 182, .ref 183, .ref 184, .ref 185, .ref 186, .ref 187, .ref 188, .ref 189, .ref 190, .ref 191, .ref 192, .ref 193, .ref 194, .ref 195, .ref 196, .ref 197, .ref 198, .ref 199, .ref 200, .ref 201, .ref 202, .ref 203, .ref 204, .ref 205, .ref 206, .ref 207, .ref 208, .ref 209, .ref 210, .ref 211, .ref 212, .ref 213, .ref 214, .ref 215, .ref 216, .ref 217, .ref 218, .ref 219, .ref 220, .ref 221, .ref 222, .ref 223, .ref 224, .ref 225, .ref 226, .ref 227, .ref 228, .ref 229, .ref 230, .ref 231, .ref 232, .ref 233, .ref 234, .ref 235, .ref 236, .ref 237, .ref 238, .ref 239, .ref 240, .ref 241, .ref 242, .ref 243, .ref 244, .ref 245, .ref 246, .ref 247, .ref 248, .ref 249, .ref 250, .ref 251, .ref 252, .ref 253, .ref 254, .ref 255, .ref 256, .ref 257], vm := .none },
  { cls := 8, slots := #[.int (-128)], vm := .none },
  { cls := 8, slots := #[.int (-127)], vm := .none },
  { cls := 8, slots := #[.int (-126)], vm := .none },
  { cls := 8, slots := #[.int (-125)], vm := .none },
  { cls := 8, slots := #[.int (-124)], vm := .none },
  { cls := 8, slots := #[.int (-123)], vm := .none },
  { cls := 8, slots := #[.int (-122)], vm := .none },
  { cls := 8, slots := #[.int (-121)], vm := .none },
  { cls := 8, slots := #[.int (-120)], vm := .none },
  { cls := 8, slots := #[.int (-119)], vm := .none },
  { cls := 8, slots := #[.int (-118)], vm := .none },
  { cls := 8, slots := #[.int (-117)], vm := .none },
  { cls := 8, slots := #[.int (-116)], vm := .none },
  { cls := 8, slots := #[.int (-115)], vm := .none },
  { cls := 8, slots := #[.int (-114)], vm := .none },
  { cls := 8, slots := #[.int (-113)], vm := .none },
  { cls := 8, slots := #[.int (-112)], vm := .none },
  { cls := 8, slots := #[.int (-111)], vm := .none },
  { cls := 8, slots := #[.int (-110)], vm := .none },
  { cls := 8, slots := #[.int (-109)], vm := .none },
  { cls := 8, slots := #[.int (-108)], vm := .none },
  { cls := 8, slots := #[.int (-107)], vm := .none },
  { cls := 8, slots := #[.int (-106)], vm := .none },
  { cls := 8, slots := #[.int (-105)], vm := .none },
  { cls := 8, slots := #[.int (-104)], vm := .none },
  { cls := 8, slots := #[.int (-103)], vm := .none },
  { cls := 8, slots := #[.int (-102)], vm := .none },
  { cls := 8, slots := #[.int (-101)], vm := .none },
  { cls := 8, slots := #[.int (-100)], vm := .none },
  { cls := 8, slots := #[.int (-99)], vm := .none },
  { cls := 8, slots := #[.int (-98)], vm := .none },
  { cls := 8, slots := #[.int (-97)], vm := .none },
  { cls := 8, slots := #[.int (-96)], vm := .none },
  { cls := 8, slots := #[.int (-95)], vm := .none },
  { cls := 8, slots := #[.int (-94)], vm := .none },
  { cls := 8, slots := #[.int (-93)], vm := .none },
  { cls := 8, slots := #[.int (-92)], vm := .none },
  { cls := 8, slots := #[.int (-91)], vm := .none },
  { cls := 8, slots := #[.int (-90)], vm := .none },
  { cls := 8, slots := #[.int (-89)], vm := .none },
  { cls := 8, slots := #[.int (-88)], vm := .none },
  { cls := 8, slots := #[.int (-87)], vm := .none },
  { cls := 8, slots := #[.int (-86)], vm := .none },
  { cls := 8, slots := #[.int (-85)], vm := .none },
  { cls := 8, slots := #[.int (-84)], vm := .none },
  { cls := 8, slots := #[.int (-83)], vm := .none },
  { cls := 8, slots := #[.int (-82)], vm := .none },
  { cls := 8, slots := #[.int (-81)], vm := .none },
  { cls := 8, slots := #[.int (-80)], vm := .none },
  { cls := 8, slots := #[.int (-79)], vm := .none },
  { cls := 8, slots := #[.int (-78)], vm := .none },
  { cls := 8, slots := #[.int (-77)], vm := .none },
  { cls := 8, slots := #[.int (-76)], vm := .none },
  { cls := 8, slots := #[.int (-75)], vm := .none },
  { cls := 8, slots := #[.int (-74)], vm := .none },
  { cls := 8, slots := #[.int (-73)], vm := .none },
  { cls := 8, slots := #[.int (-72)], vm := .none },
  { cls := 8, slots := #[.int (-71)], vm := .none },
  { cls := 8, slots := #[.int (-70)], vm := .none },
  { cls := 8, slots := #[.int (-69)], vm := .none },
  { cls := 8, slots := #[.int (-68)], vm := .none },
  { cls := 8, slots := #[.int (-67)], vm := .none },
  { cls := 8, slots := #[.int (-66)], vm := .none },
  { cls := 8, slots := #[.int (-65)], vm := .none },
  { cls := 8, slots := #[.int (-64)], vm := .none },
  { cls := 8, slots := #[.int (-63)], vm := .none },
  { cls := 8, slots := #[.int (-62)], vm := .none },
  { cls := 8, slots := #[.int (-61)], vm := .none },
  { cls := 8, slots := #[.int (-60)], vm := .none },
  { cls := 8, slots := #[.int (-59)], vm := .none },
  { cls := 8, slots := #[.int (-58)], vm := .none },
  { cls := 8, slots := #[.int (-57)], vm := .none },
  { cls := 8, slots := #[.int (-56)], vm := .none },
  { cls := 8, slots := #[.int (-55)], vm := .none },
  { cls := 8, slots := #[.int (-54)], vm := .none },
  { cls := 8, slots := #[.int (-53)], vm := .none },
  { cls := 8, slots := #[.int (-52)], vm := .none },
  { cls := 8, slots := #[.int (-51)], vm := .none },
  { cls := 8, slots := #[.int (-50)], vm := .none },
  { cls := 8, slots := #[.int (-49)], vm := .none },
  { cls := 8, slots := #[.int (-48)], vm := .none },
  { cls := 8, slots := #[.int (-47)], vm := .none },
  { cls := 8, slots := #[.int (-46)], vm := .none },
  { cls := 8, slots := #[.int (-45)], vm := .none },
  { cls := 8, slots := #[.int (-44)], vm := .none },
  { cls := 8, slots := #[.int (-43)], vm := .none },
  { cls := 8, slots := #[.int (-42)], vm := .none },
  { cls := 8, slots := #[.int (-41)], vm := .none },
  { cls := 8, slots := #[.int (-40)], vm := .none },
  { cls := 8, slots := #[.int (-39)], vm := .none },
  { cls := 8, slots := #[.int (-38)], vm := .none },
  { cls := 8, slots := #[.int (-37)], vm := .none },
  { cls := 8, slots := #[.int (-36)], vm := .none },
  { cls := 8, slots := #[.int (-35)], vm := .none },
  { cls := 8, slots := #[.int (-34)], vm := .none },
  { cls := 8, slots := #[.int (-33)], vm := .none },
  { cls := 8, slots := #[.int (-32)], vm := .none },
  { cls := 8, slots := #[.int (-31)], vm := .none },
  { cls := 8, slots := #[.int (-30)], vm := .none },
  { cls := 8, slots := #[.int (-29)], vm := .none },
  { cls := 8, slots := #[.int (-28)], vm := .none },
  { cls := 8, slots := #[.int (-27)], vm := .none },
  { cls := 8, slots := #[.int (-26)], vm := .none },
  { cls := 8, slots := #[.int (-25)], vm := .none },
  { cls := 8, slots := #[.int (-24)], vm := .none },
  { cls := 8, slots := #[.int (-23)], vm := .none },
  { cls := 8, slots := #[.int (-22)], vm := .none },
  { cls := 8, slots := #[.int (-21)], vm := .none },
  { cls := 8, slots := #[.int (-20)], vm := .none },
  { cls := 8, slots := #[.int (-19)], vm := .none },
  { cls := 8, slots := #[.int (-18)], vm := .none },
  { cls := 8, slots := #[.int (-17)], vm := .none },
  { cls := 8, slots := #[.int (-16)], vm := .none },
  { cls := 8, slots := #[.int (-15)], vm := .none },
  { cls := 8, slots := #[.int (-14)], vm := .none },
  { cls := 8, slots := #[.int (-13)], vm := .none },
  { cls := 8, slots := #[.int (-12)], vm := .none },
  { cls := 8, slots := #[.int (-11)], vm := .none },
  { cls := 8, slots := #[.int (-10)], vm := .none },
  { cls := 8, slots := #[.int (-9)], vm := .none },
  { cls := 8, slots := #[.int (-8)], vm := .none },
  { cls := 8, slots := #[.int (-7)], vm := .none },
  { cls := 8, slots := #[.int (-6)], vm := .none },
  { cls := 8, slots := #[.int (-5)], vm := .none },
  { cls := 8, slots := #[.int (-4)], vm := .none },
  { cls := 8, slots := #[.int (-3)], vm := .none },
  { cls := 8, slots := #[.int (-2)], vm := .none },
  { cls := 8, slots := #[.int (-1)], vm := .none },
  { cls := 8, slots := #[.int 0], vm := .none },
  { cls := 8, slots := #[.int 1], vm := .none },
  { cls := 8, slots := #[.int 2], vm := .none },
  { cls := 8, slots := #[.int 3], vm := .none },
  { cls := 8, slots := #[.int 4], vm := .none },
  { cls := 8, slots := #[.int 5], vm := .none },
  { cls := 8, slots := #[.int 6], vm := .none },
  { cls := 8, slots := #[.int 7], vm := .none },
  { cls := 8, slots := #[.int 8], vm := .none },
  { cls := 8, slots := #[.int 9], vm := .none },
  { cls := 8, slots := #[.int 10], vm := .none },
  { cls := 8, slots := #[.int 11], vm := .none },
  { cls := 8, slots := #[.int 12], vm := .none },
  { cls := 8, slots := #[.int 13], vm := .none },
  { cls := 8, slots := #[.int 14], vm := .none },
  { cls := 8, slots := #[.int 15], vm := .none },
  { cls := 8, slots := #[.int 16], vm := .none },
  { cls := 8, slots := #[.int 17], vm := .none },
  { cls := 8, slots := #[.int 18], vm := .none },
  { cls := 8, slots := #[.int 19], vm := .none },
  { cls := 8, slots := #[.int 20], vm := .none },
  { cls := 8, slots := #[.int 21], vm := .none },
  { cls := 8, slots := #[.int 22], vm := .none },
  { cls := 8, slots := #[.int 23], vm := .none },
  { cls := 8, slots := #[.int 24], vm := .none },
  { cls := 8, slots := #[.int 25], vm := .none },
  { cls := 8, slots := #[.int 26], vm := .none },
  { cls := 8, slots := #[.int 27], vm := .none },
  { cls := 8, slots := #[.int 28], vm := .none },
  { cls := 8, slots := #[.int 29], vm := .none },
  { cls := 8, slots := #[.int 30], vm := .none },
  { cls := 8, slots := #[.int 31], vm := .none },
  { cls := 8, slots := #[.int 32], vm := .none },
  { cls := 8, slots := #[.int 33], vm := .none },
  { cls := 8, slots := #[.int 34], vm := .none },
  { cls := 8, slots := #[.int 35], vm := .none },
  { cls := 8, slots := #[.int 36], vm := .none },
  { cls := 8, slots := #[.int 37], vm := .none },
  { cls := 8, slots := #[.int 38], vm := .none },
  { cls := 8, slots := #[.int 39], vm := .none },
  { cls := 8, slots := #[.int 40], vm := .none },
  { cls := 8, slots := #[.int 41], vm := .none },
  { cls := 8, slots := #[.int 42], vm := .none },
  { cls := 8, slots := #[.int 43], vm := .none },
  { cls := 8, slots := #[.int 44], vm := .none },
  { cls := 8, slots := #[.int 45], vm := .none },
  { cls := 8, slots := #[.int 46], vm := .none },
  { cls := 8, slots := #[.int 47], vm := .none },
  { cls := 8, slots := #[.int 48], vm := .none },
  { cls := 8, slots := #[.int 49], vm := .none },
  { cls := 8, slots := #[.int 50], vm := .none },
  { cls := 8, slots := #[.int 51], vm := .none },
  { cls := 8, slots := #[.int 52], vm := .none },
  { cls := 8, slots := #[.int 53], vm := .none },
  { cls := 8, slots := #[.int 54], vm := .none },
  { cls := 8, slots := #[.int 55], vm := .none },
  { cls := 8, slots := #[.int 56], vm := .none },
  { cls := 8, slots := #[.int 57], vm := .none },
  { cls := 8, slots := #[.int 58], vm := .none },
  { cls := 8, slots := #[.int 59], vm := .none },
  { cls := 8, slots := #[.int 60], vm := .none },
  { cls := 8, slots := #[.int 61], vm := .none },
  { cls := 8, slots := #[.int 62], vm := .none },
  { cls := 8, slots := #[.int 63], vm := .none },
  { cls := 8, slots := #[.int 64], vm := .none },
  { cls := 8, slots := #[.int 65], vm := .none },
  { cls := 8, slots := #[.int 66], vm := .none },
  { cls := 8, slots := #[.int 67], vm := .none },
  { cls := 8, slots := #[.int 68], vm := .none },
  { cls := 8, slots := #[.int 69], vm := .none },
  { cls := 8, slots := #[.int 70], vm := .none },
  { cls := 8, slots := #[.int 71], vm := .none },
  { cls := 8, slots := #[.int 72], vm := .none },
  { cls := 8, slots := #[.int 73], vm := .none },
  { cls := 8, slots := #[.int 74], vm := .none },
  { cls := 8, slots := #[.int 75], vm := .none },
  { cls := 8, slots := #[.int 76], vm := .none },
  { cls := 8, slots := #[.int 77], vm := .none },
  { cls := 8, slots := #[.int 78], vm := .none },
  { cls := 8, slots := #[.int 79], vm := .none },
  { cls := 8, slots := #[.int 80], vm := .none },
  { cls := 8, slots := #[.int 81], vm := .none },
  { cls := 8, slots := #[.int 82], vm := .none },
  { cls := 8, slots := #[.int 83], vm := .none },
  { cls := 8, slots := #[.int 84], vm := .none },
  { cls := 8, slots := #[.int 85], vm := .none },
  { cls := 8, slots := #[.int 86], vm := .none },
  { cls := 8, slots := #[.int 87], vm := .none },
  { cls := 8, slots := #[.int 88], vm := .none },
  { cls := 8, slots := #[.int 89], vm := .none },
  { cls := 8, slots := #[.int 90], vm := .none },
  { cls := 8, slots := #[.int 91], vm := .none },
  { cls := 8, slots := #[.int 92], vm := .none },
  { cls := 8, slots := #[.int 93], vm := .none },
  { cls := 8, slots := #[.int 94], vm := .none },
  { cls := 8, slots := #[.int 95], vm := .none },
  { cls := 8, slots := #[.int 96], vm := .none },
  { cls := 8, slots := #[.int 97], vm := .none },
  { cls := 8, slots := #[.int 98], vm := .none },
  { cls := 8, slots := #[.int 99], vm := .none },
  { cls := 8, slots := #[.int 100], vm := .none },
  { cls := 8, slots := #[.int 101], vm := .none },
  { cls := 8, slots := #[.int 102], vm := .none },
  { cls := 8, slots := #[.int 103], vm := .none },
  { cls := 8, slots := #[.int 104], vm := .none },
  { cls := 8, slots := #[.int 105], vm := .none },
  { cls := 8, slots := #[.int 106], vm := .none },
  { cls := 8, slots := #[.int 107], vm := .none },
  { cls := 8, slots := #[.int 108], vm := .none },
  { cls := 8, slots := #[.int 109], vm := .none },
  { cls := 8, slots := #[.int 110], vm := .none },
  { cls := 8, slots := #[.int 111], vm := .none },
  { cls := 8, slots := #[.int 112], vm := .none },
  { cls := 8, slots := #[.int 113], vm := .none },
  { cls := 8, slots := #[.int 114], vm := .none },
  { cls := 8, slots := #[.int 115], vm := .none },
  { cls := 8, slots := #[.int 116], vm := .none },
  { cls := 8, slots := #[.int 117], vm := .none },
  { cls := 8, slots := #[.int 118], vm := .none },
  { cls := 8, slots := #[.int 119], vm := .none },
  { cls := 8, slots := #[.int 120], vm := .none },
  { cls := 8, slots := #[.int 121], vm := .none },
  { cls := 8, slots := #[.int 122], vm := .none },
  { cls := 8, slots := #[.int 123], vm := .none },
  { cls := 8, slots := #[.int 124], vm := .none },
  { cls := 8, slots := #[.int 125], vm := .none },
  { cls := 8, slots := #[.int 126], vm := .none },
  { cls := 8, slots := #[.int 127], vm := .none }]
def classes : Array Class := #[k0, k1, k2, k3, k4, k5, k6, k7, k8, k9, k10, k11, k12, k13, k14, k15, k16]
def interned : List (Array UInt16 × Addr) := []
def slotsUsed : Nat := 517
def theMethod : MethodId := ⟨1, 1⟩
def args0 : Array Value := #[.int 5, .int 5, .int 5, .int 5, .int 5]
def aboutOver (below : List Frame) : State where
  vm := { classes := classes, interned := interned.toArray }
  heap := heap
  slotsUsed := slotsUsed
  threads := #[{ frames := .invoking theMethod args0 :: below }]
def below0 : List Frame := [.native { method := ⟨0, 0⟩, args := #[] }]
def about1 : State := aboutOver below0
def p0 : Program := .bare "" "" ""
def e0 : Env := launch0.env 0 0 0
theorem w_frames : about1.frames = Frame.invoking theMethod args0 :: below0 := rfl
set_option maxRecDepth 65536 in
theorem w_args : argsFit about1.vm theMethod args0 = true := by decide +kernel
set_option maxRecDepth 65536 in
theorem w_heap : heapFits about1 = true := by decide +kernel
set_option maxRecDepth 65536 in
theorem w_runnable : about1.curStatus? = some .runnable := by decide +kernel
set_option maxRecDepth 65536 in
theorem w_alone : about1.alone = true := by decide +kernel
set_option maxRecDepth 65536 in
theorem w_named : about1.methodNamed? x = some theMethod := by decide +kernel
set_option maxRecDepth 65536 in
theorem w_hears : about1.hears theMethod below0 = true := by decide +kernel
set_option maxRecDepth 65536 in
theorem w_ripe : about1.ripe theMethod args0 below0 = true := by decide +kernel
theorem w_running : about1.status = .running := rfl
set_option maxRecDepth 65536 in
theorem w_room : about1.hasRoom e0.platform room_1 = true :=
  launch0.hasRoom_least _ room_1 (by decide +kernel) (by decide +kernel) (by decide +kernel) (by decide +kernel) (by decide +kernel) (by decide +kernel)
theorem allAtoms_all (ts : List Jvm.Cond) (a : Array Jvm.Value) (st : Jvm.State) : (allAtoms ts).before a st = ts.all (fun c => c.before a st) := by
  induction ts with
  | nil => rfl
  | cons c t ih =>
    show (Jvm.Cond.and c (allAtoms t)).before a st = _
    rw [Jvm.Cond.before_and, ih, List.all_cons]
def words1 : List Jvm.Cond := Jvm.Cond.code x code maxLocals ret :: tables_1
/-- a 'code' word, met by the world's own term for the bytes: nothing is compared byte by byte -/
theorem code_word {y : MethodName} {bytes : ByteArray} {mx : Nat} {rt : Option FieldType} {a : Array Value} {s : State} {m : MethodId} {meth : Method} {c : Code} (h1 : s.methodNamed? y = some m) (h2 : s.vm.method? m = some meth) (h3 : meth.code = some c) (h4 : c.code = bytes)
    (h5 : (c.maxLocals == mx && c.exceptionTable.isEmpty && decide (c.maxStack ≤ mostOperands) && decide (meth.sig.returnType = rt) && !meth.locks && decide (parseMethodDescriptor y.desc = some meth.sig)) = true) : (Jvm.Cond.code y bytes mx rt).before a s = true := by
  simp only [Bool.and_eq_true, beq_iff_eq, Bool.not_eq_true', decide_eq_true_eq] at h5
  obtain ⟨⟨⟨⟨⟨g1, g2⟩, g3⟩, g4⟩, g5⟩, g6⟩ := h5
  simp [Cond.before, Cond.holds, Cond.value, h1, h2, h3, h4, g1, g2, g3, g4, g5, g6]
def isCode : Jvm.Cond → Bool
  | .code _ _ _ _ => true
  | _ => false
theorem all_split {L : List Jvm.Cond} {P : Jvm.Cond → Bool} (h1 : L.all (fun c => isCode c || P c) = true) (h2 : ∀ c ∈ L.filter isCode, P c = true) : L.all P = true := by
  refine List.all_eq_true.mpr fun c hc => ?_
  have h := List.all_eq_true.mp h1 c hc
  rcases Bool.eq_false_or_eq_true (isCode c) with hi | hi
  · exact h2 c (List.mem_filter.mpr ⟨hc, hi⟩)
  · simpa [hi] using h
set_option maxRecDepth 65536 in
theorem w_c0 : (Jvm.Cond.code x code maxLocals ret).before args0 about1 = true := code_word (m := ⟨1, 1⟩) (meth := k1m1) (c := k1c1) (by decide +kernel) rfl rfl rfl (by decide +kernel)
set_option maxRecDepth 65536 in
theorem w_c1 : (Jvm.Cond.code ({ cls := "com/example/entigate/entigate/sample/PlaylistTrackId", name := "<init>", desc := "()V" } : Jvm.MethodName) prog_2_method_1_code (1 : Nat) (Option.none : Option Jvm.ClassFile.FieldType)).before args0 about1 = true := code_word (m := ⟨3, 0⟩) (meth := k3m0) (c := k3c0) (by decide +kernel) rfl rfl rfl (by decide +kernel)
set_option maxRecDepth 65536 in
theorem w_c2 : (Jvm.Cond.code ({ cls := "java/lang/Object", name := "<init>", desc := "()V" } : Jvm.MethodName) object_method_1_code (1 : Nat) (Option.none : Option Jvm.ClassFile.FieldType)).before args0 about1 = true := code_word (m := ⟨0, 0⟩) (meth := k0m0) (c := k0c0) (by decide +kernel) rfl rfl rfl (by decide +kernel)
set_option maxRecDepth 65536 in
theorem w_c3 : (Jvm.Cond.code ({ cls := "java/lang/Integer", name := "valueOf", desc := "(I)Ljava/lang/Integer;" } : Jvm.MethodName) jdk_33_method_22_code (1 : Nat) (Option.some (Jvm.ClassFile.FieldType.object "java/lang/Integer"))).before args0 about1 = true := code_word (m := ⟨8, 0⟩) (meth := k8m0) (c := k8c0) (by decide +kernel) rfl rfl rfl (by decide +kernel)
set_option maxRecDepth 65536 in
theorem w_c4 : (Jvm.Cond.code ({ cls := "com/example/entigate/entigate/sample/PlaylistTrackId", name := "setTrackId", desc := "(Ljava/lang/Integer;)V" } : Jvm.MethodName) prog_2_method_4_code (2 : Nat) (Option.none : Option Jvm.ClassFile.FieldType)).before args0 about1 = true := code_word (m := ⟨3, 1⟩) (meth := k3m1) (c := k3c1) (by decide +kernel) rfl rfl rfl (by decide +kernel)
set_option maxRecDepth 65536 in
theorem w_c5 : (Jvm.Cond.code ({ cls := "com/example/entigate/entigate/sample/PlaylistTrackId", name := "setPlaylistId", desc := "(Ljava/lang/Integer;)V" } : Jvm.MethodName) prog_2_method_6_code (2 : Nat) (Option.none : Option Jvm.ClassFile.FieldType)).before args0 about1 = true := code_word (m := ⟨3, 2⟩) (meth := k3m2) (c := k3c2) (by decide +kernel) rfl rfl rfl (by decide +kernel)
set_option maxRecDepth 65536 in
theorem w_c6 : (Jvm.Cond.code ({ cls := "com/example/entigate/entigate/sample/PlaylistTrackIdEqualsPinLaw", name := "sameField", desc := "(ZIZI)Z" } : Jvm.MethodName) method_3_code (4 : Nat) (Option.some Jvm.ClassFile.FieldType.boolean)).before args0 about1 = true := code_word (m := ⟨1, 2⟩) (meth := k1m2) (c := k1c2) (by decide +kernel) rfl rfl rfl (by decide +kernel)
set_option maxRecDepth 65536 in
theorem w_c7 : (Jvm.Cond.code ({ cls := "com/example/entigate/entigate/sample/PlaylistTrackId", name := "equals", desc := "(Ljava/lang/Object;)Z" } : Jvm.MethodName) prog_2_method_7_code (3 : Nat) (Option.some Jvm.ClassFile.FieldType.boolean)).before args0 about1 = true := code_word (m := ⟨3, 3⟩) (meth := k3m3) (c := k3c3) (by decide +kernel) rfl rfl rfl (by decide +kernel)
set_option maxRecDepth 65536 in
theorem w_c8 : (Jvm.Cond.code ({ cls := "java/util/Objects", name := "equals", desc := "(Ljava/lang/Object;Ljava/lang/Object;)Z" } : Jvm.MethodName) jdk_31_method_2_code (2 : Nat) (Option.some Jvm.ClassFile.FieldType.boolean)).before args0 about1 = true := code_word (m := ⟨10, 1⟩) (meth := k10m1) (c := k10c1) (by decide +kernel) rfl rfl rfl (by decide +kernel)
set_option maxRecDepth 65536 in
theorem w_c9 : (Jvm.Cond.code ({ cls := "java/lang/Integer", name := "equals", desc := "(Ljava/lang/Object;)Z" } : Jvm.MethodName) jdk_33_method_34_code (2 : Nat) (Option.some Jvm.ClassFile.FieldType.boolean)).before args0 about1 = true := code_word (m := ⟨8, 3⟩) (meth := k8m3) (c := k8c3) (by decide +kernel) rfl rfl rfl (by decide +kernel)
set_option maxRecDepth 65536 in
theorem w_c10 : (Jvm.Cond.code ({ cls := "java/lang/Integer", name := "intValue", desc := "()I" } : Jvm.MethodName) jdk_33_method_27_code (1 : Nat) (Option.some Jvm.ClassFile.FieldType.int)).before args0 about1 = true := code_word (m := ⟨8, 2⟩) (meth := k8m2) (c := k8c2) (by decide +kernel) rfl rfl rfl (by decide +kernel)
set_option maxRecDepth 65536 in
theorem w_c11 : (Jvm.Cond.code ({ cls := "java/lang/Integer", name := "<init>", desc := "(I)V" } : Jvm.MethodName) jdk_33_method_23_code (2 : Nat) (Option.none : Option Jvm.ClassFile.FieldType)).before args0 about1 = true := code_word (m := ⟨8, 1⟩) (meth := k8m1) (c := k8c1) (by decide +kernel) rfl rfl rfl (by decide +kernel)
set_option maxRecDepth 65536 in
theorem w_c12 : (Jvm.Cond.code ({ cls := "java/lang/Number", name := "<init>", desc := "()V" } : Jvm.MethodName) jdk_18_method_1_code (1 : Nat) (Option.none : Option Jvm.ClassFile.FieldType)).before args0 about1 = true := code_word (m := ⟨4, 0⟩) (meth := k4m0) (c := k4c0) (by decide +kernel) rfl rfl rfl (by decide +kernel)
def codes1 : List Jvm.Cond := [Jvm.Cond.code x code maxLocals ret, Jvm.Cond.code ({ cls := "com/example/entigate/entigate/sample/PlaylistTrackId", name := "<init>", desc := "()V" } : Jvm.MethodName) prog_2_method_1_code (1 : Nat) (Option.none : Option Jvm.ClassFile.FieldType), Jvm.Cond.code ({ cls := "java/lang/Object", name := "<init>", desc := "()V" } : Jvm.MethodName) object_method_1_code (1 : Nat) (Option.none : Option Jvm.ClassFile.FieldType), Jvm.Cond.code ({ cls := "java/lang/Integer", name := "valueOf", desc := "(I)Ljava/lang/Integer;" } : Jvm.MethodName) jdk_33_method_22_code (1 : Nat) (Option.some (Jvm.ClassFile.FieldType.object "java/lang/Integer")), Jvm.Cond.code ({ cls := "com/example/entigate/entigate/sample/PlaylistTrackId", name := "setTrackId", desc := "(Ljava/lang/Integer;)V" } : Jvm.MethodName) prog_2_method_4_code (2 : Nat) (Option.none : Option Jvm.ClassFile.FieldType), Jvm.Cond.code ({ cls := "com/example/entigate/entigate/sample/PlaylistTrackId", name := "setPlaylistId", desc := "(Ljava/lang/Integer;)V" } : Jvm.MethodName) prog_2_method_6_code (2 : Nat) (Option.none : Option Jvm.ClassFile.FieldType), Jvm.Cond.code ({ cls := "com/example/entigate/entigate/sample/PlaylistTrackIdEqualsPinLaw", name := "sameField", desc := "(ZIZI)Z" } : Jvm.MethodName) method_3_code (4 : Nat) (Option.some Jvm.ClassFile.FieldType.boolean), Jvm.Cond.code ({ cls := "com/example/entigate/entigate/sample/PlaylistTrackId", name := "equals", desc := "(Ljava/lang/Object;)Z" } : Jvm.MethodName) prog_2_method_7_code (3 : Nat) (Option.some Jvm.ClassFile.FieldType.boolean), Jvm.Cond.code ({ cls := "java/util/Objects", name := "equals", desc := "(Ljava/lang/Object;Ljava/lang/Object;)Z" } : Jvm.MethodName) jdk_31_method_2_code (2 : Nat) (Option.some Jvm.ClassFile.FieldType.boolean), Jvm.Cond.code ({ cls := "java/lang/Integer", name := "equals", desc := "(Ljava/lang/Object;)Z" } : Jvm.MethodName) jdk_33_method_34_code (2 : Nat) (Option.some Jvm.ClassFile.FieldType.boolean), Jvm.Cond.code ({ cls := "java/lang/Integer", name := "intValue", desc := "()I" } : Jvm.MethodName) jdk_33_method_27_code (1 : Nat) (Option.some Jvm.ClassFile.FieldType.int), Jvm.Cond.code ({ cls := "java/lang/Integer", name := "<init>", desc := "(I)V" } : Jvm.MethodName) jdk_33_method_23_code (2 : Nat) (Option.none : Option Jvm.ClassFile.FieldType), Jvm.Cond.code ({ cls := "java/lang/Number", name := "<init>", desc := "()V" } : Jvm.MethodName) jdk_18_method_1_code (1 : Nat) (Option.none : Option Jvm.ClassFile.FieldType)]
set_option maxRecDepth 65536 in
theorem codes_eq : words1.filter isCode = codes1 := rfl
theorem w_codes : ∀ c ∈ words1.filter isCode, c.before args0 about1 = true := by
  rw [codes_eq]
  intro c hc
  simp only [codes1, List.mem_cons, List.not_mem_nil, or_false] at hc
  rcases hc with rfl | rfl | rfl | rfl | rfl | rfl | rfl | rfl | rfl | rfl | rfl | rfl | rfl
  · exact w_c0
  · exact w_c1
  · exact w_c2
  · exact w_c3
  · exact w_c4
  · exact w_c5
  · exact w_c6
  · exact w_c7
  · exact w_c8
  · exact w_c9
  · exact w_c10
  · exact w_c11
  · exact w_c12
set_option maxRecDepth 65536 in
theorem w_t1 : (words1.take 24).all (fun c => isCode c || c.before args0 about1) = true := by decide +kernel
set_option maxRecDepth 65536 in
theorem w_t2 : ((words1.drop 24).take 24).all (fun c => isCode c || c.before args0 about1) = true := by decide +kernel
set_option maxRecDepth 65536 in
theorem w_t3 : (((words1.drop 24).drop 24).take 24).all (fun c => isCode c || c.before args0 about1) = true := by decide +kernel
set_option maxRecDepth 65536 in
theorem w_t4 : (((words1.drop 24).drop 24).drop 24).all (fun c => isCode c || c.before args0 about1) = true := by decide +kernel
theorem w_tables : (allAtoms (Jvm.Cond.code x code maxLocals ret :: tables_1)).before args0 about1 = true := by
  rw [allAtoms_all]
  show words1.all (fun c => c.before args0 about1) = true
  refine all_split ?_ w_codes
  rw [← List.take_append_drop 24 words1, List.all_append, w_t1, ← List.take_append_drop 24 (words1.drop 24), List.all_append, w_t2, ← List.take_append_drop 24 ((words1.drop 24).drop 24), List.all_append, w_t3, w_t4]
  rfl
set_option maxRecDepth 65536 in
theorem w_rest : rest_1_c.before args0 about1 = true := by decide +kernel
set_option maxRecDepth 65536 in
theorem w_case : (Jvm.Cond.and given_1 narrow_1).before args0 about1 = true := by decide +kernel
theorem w_applies : (headSpec (Jvm.Cond.code x code maxLocals ret :: tables_1) room_1).applies x e0.platform about1 = true :=
  (Spec.applies_iff w_frames).mpr ⟨w_running, w_runnable, w_alone, w_named, w_hears, w_ripe, w_room, w_tables⟩
theorem atStart : AtStart classFile x code maxLocals ret World_1 tables_1 room_1 Calls_1 rest_1 Pre_1 launch0 p0 e0 about1 theMethod args0 below0 :=
  ⟨lists_1, trivial, launch0.admits_env _ _ _, launch0.least_env, fairChoices_fair.cas, fairChoices_fair.clock, w_frames, w_args, w_heap, w_applies, trivial, w_rest, w_case⟩
end start1
theorem witness_1 : WitnessClaimed_1 := ⟨start1.p0, start1.e0, start1.about1, start1.theMethod, start1.args0, start1.below0, start1.atStart⟩
end Jvm.Pilot.@@N@@
