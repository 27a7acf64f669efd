import JvmDerived
import JvmDerived.Pilot.@@N@@Statement
import JvmDerived.Pilot.@@N@@Code
set_option linter.unusedVariables false
set_option linter.unusedSimpArgs false
namespace Jvm.Pilot.@@N@@
open Jvm Jvm.ClassFile Sem Op Lib Jvm.Free Jvm.Stand Jvm.LawKit Jvm.RoadKit Bundle Jvm.Pilot.@@N@@.Jvm.D
/-! own_Done: from frame F on top of T the run comes to its end, and R holds there -/
def own_Done (tb : Tables) (e : Env) (below : List Frame) (R : Outcome → State → Prop) (T : State) (F : JFrame) : Prop :=
  ∃ s₂ o, Steps tb e below (T.setTop F) s₂ ∧ s₂.status = .running ∧ Ended s₂ below o ∧ R o s₂
def own_R (Qq : Option Value → Heap → List Loc → Prop) (s : State) (C S : Nat) : Outcome → State → Prop :=
  fun o U => ∃ v L, o = .returned v ∧ Qq v U.heap L ∧ FrameEnd s o U L C S
def own_RW (Qq : Option Value → Heap → List Loc → Prop) (s : State) (C S : Nat) : Outcome → State → Prop :=
  fun o U => ∃ v L, o = .returned v ∧ Qq v U.heap L ∧ ReturnedEndW s o U L C S
theorem own_st {tb : Tables} {e : Env} {below : List Frame} {R : Outcome → State → Prop} {T T' : State} {F F' : JFrame} (k : ∀ t, Steps tb e below (T'.setTop F') t → Steps tb e below (T.setTop F) t) (d : own_Done tb e below R T' F') : own_Done tb e below R T F := by
  obtain ⟨a, o, h1, h2⟩ := d
  exact ⟨a, o, k a h1, h2⟩
theorem own_tr {tb : Tables} {e : Env} {below : List Frame} {R : Outcome → State → Prop} {T T' : State} {F F' : JFrame} (k : Steps tb e below (T.setTop F) (T'.setTop F')) (d : own_Done tb e below R T' F') : own_Done tb e below R T F := by
  obtain ⟨a, o, h1, h2⟩ := d
  exact ⟨a, o, k.trans h1, h2⟩
section Own
variable {p : Program} {l : Launch} {e : Env} {Rm : Room} {s : State} {m : MethodId} {args : Array Value} {below : List Frame} {meth : Method} {c : Code} {T : State} {locs : List Loc} {cells slots : Nat}
theorem own_ret (X : Stand p l e Rm s m args below meth c T locs cells slots) (hx : p.tables.exec = Jvm.exec) {pc : Nat} {Ls : Array Slot} {w : Value} {t : FieldType} {i : Instr} {rest : List Value} (hret : meth.sig.returnType = some t) (hn : narrow t w = w)
    (hi : (i = .ireturn ∧ (t = .int ∨ t = .boolean ∨ t = .byte ∨ t = .char ∨ t = .short) ∧ ∃ z, w = .int z) ∨ (i = .lreturn ∧ t = .long ∧ ∃ z, w = .long z) ∨ (i = .dreturn ∧ t = .double ∧ ∃ z, w = .double z) ∨ (i = .freturn ∧ t = .float ∧ ∃ z, w = .float z) ∨ (i = .areturn ∧ t.isReference = true ∧ w.isRef = true))
    (hd : decode c.code pc = .ok (i, 1)) (hlk : meth.locks = false) {Qq : Option Value → Heap → List Loc → Prop} {C S : Nat} (hQ : Qq (some w) T.heap locs) (hc : cells ≤ C) (hs : slots ≤ S) :
    own_Done p.tables e below (own_R Qq s C S) T (mkF m pc Ls (w :: rest)) := by
  obtain ⟨fs, hr, hrun, hended, hW, hsame⟩ := X.leave (v := some w) (fun h => by rw [hret] at h; cases h) hlk
  exact ⟨_, _, retOut X hx hret hn hi hd hr, hrun, hended, _, _, rfl, hQ, ⟨_, rfl⟩, hW, hsame.mono hc hs⟩
theorem own_retI (X : Stand p l e Rm s m args below meth c T locs cells slots) (hx : p.tables.exec = Jvm.exec) {pc : Nat} {Ls : Array Slot} {z : Int32} {rest : List Value} (hret : meth.sig.returnType = some .int) (hd : decode c.code pc = .ok (.ireturn, 1)) (hlk : meth.locks = false)
    {Qq : Option Value → Heap → List Loc → Prop} {C S : Nat} (hQ : Qq (some (.int z)) T.heap locs) (hc : cells ≤ C) (hs : slots ≤ S) : own_Done p.tables e below (own_R Qq s C S) T (mkF m pc Ls (.int z :: rest)) :=
  own_ret X hx hret rfl (Or.inl ⟨rfl, Or.inl rfl, _, rfl⟩) hd hlk hQ hc hs
theorem own_retN (X : Stand p l e Rm s m args below meth c T locs cells slots) (hx : p.tables.exec = Jvm.exec) {pc : Nat} {Ls : Array Slot} {z : Int32} {t : FieldType} {rest : List Value} (hret : meth.sig.returnType = some t) (ht : t = .boolean ∨ t = .byte ∨ t = .char ∨ t = .short) (hn : narrow t (.int z) = .int z) (hd : decode c.code pc = .ok (.ireturn, 1)) (hlk : meth.locks = false)
    {Qq : Option Value → Heap → List Loc → Prop} {C S : Nat} (hQ : Qq (some (.int z)) T.heap locs) (hc : cells ≤ C) (hs : slots ≤ S) : own_Done p.tables e below (own_R Qq s C S) T (mkF m pc Ls (.int z :: rest)) :=
  own_ret X hx hret hn (Or.inl ⟨rfl, Or.inr ht, _, rfl⟩) hd hlk hQ hc hs
theorem own_retJ (X : Stand p l e Rm s m args below meth c T locs cells slots) (hx : p.tables.exec = Jvm.exec) {pc : Nat} {Ls : Array Slot} {z : Int64} {rest : List Value} (hret : meth.sig.returnType = some .long) (hd : decode c.code pc = .ok (.lreturn, 1)) (hlk : meth.locks = false)
    {Qq : Option Value → Heap → List Loc → Prop} {C S : Nat} (hQ : Qq (some (.long z)) T.heap locs) (hc : cells ≤ C) (hs : slots ≤ S) : own_Done p.tables e below (own_R Qq s C S) T (mkF m pc Ls (.long z :: rest)) :=
  own_ret X hx hret rfl (Or.inr (Or.inl ⟨rfl, rfl, _, rfl⟩)) hd hlk hQ hc hs
theorem own_narrow {t : FieldType} {v : Value} (h : v.isRef = true) : narrow t v = v := by
  rcases ref_cases h with rfl | ⟨a, rfl⟩ <;> cases t <;> rfl
theorem own_retA (X : Stand p l e Rm s m args below meth c T locs cells slots) (hx : p.tables.exec = Jvm.exec) {pc : Nat} {Ls : Array Slot} {w : Value} {t : FieldType} {rest : List Value} (hret : meth.sig.returnType = some t) (ht : t.isReference = true) (hw : w.isRef = true) (hd : decode c.code pc = .ok (.areturn, 1)) (hlk : meth.locks = false)
    {Qq : Option Value → Heap → List Loc → Prop} {C S : Nat} (hQ : Qq (some w) T.heap locs) (hc : cells ≤ C) (hs : slots ≤ S) : own_Done p.tables e below (own_R Qq s C S) T (mkF m pc Ls (w :: rest)) :=
  own_ret X hx hret (own_narrow hw) (Or.inr (Or.inr (Or.inr (Or.inr ⟨rfl, ht, hw⟩)))) hd hlk hQ hc hs
theorem own_retV (X : Stand p l e Rm s m args below meth c T locs cells slots) (hx : p.tables.exec = Jvm.exec) {pc : Nat} {Ls : Array Slot} (hret : meth.sig.returnType = none) (hd : decode c.code pc = .ok (.return_, 1)) (hlk : meth.locks = false)
    {Qq : Option Value → Heap → List Loc → Prop} {C S : Nat} (hQ : Qq none T.heap locs) (hc : cells ≤ C) (hs : slots ≤ S) : own_Done p.tables e below (own_R Qq s C S) T (mkF m pc Ls []) := by
  obtain ⟨fs, hr, hrun, hended, hW, hsame⟩ := X.leave (v := none) (fun _ => rfl) hlk
  exact ⟨_, _, X.returnOut hx hret hd hr, hrun, hended, _, _, rfl, hQ, ⟨_, rfl⟩, hW, hsame.mono hc hs⟩
theorem own_retW {vm₁ : Vm} (X : Stand p l e Rm (s.setVm vm₁) m args below meth c T locs cells slots) (hx : p.tables.exec = Jvm.exec) {pc : Nat} {Ls : Array Slot} {w : Value} {t : FieldType} {i : Instr} {rest : List Value} (hret : meth.sig.returnType = some t) (hn : narrow t w = w)
    (hi : (i = .ireturn ∧ (t = .int ∨ t = .boolean ∨ t = .byte ∨ t = .char ∨ t = .short) ∧ ∃ z, w = .int z) ∨ (i = .lreturn ∧ t = .long ∧ ∃ z, w = .long z) ∨ (i = .dreturn ∧ t = .double ∧ ∃ z, w = .double z) ∨ (i = .freturn ∧ t = .float ∧ ∃ z, w = .float z) ∨ (i = .areturn ∧ t.isReference = true ∧ w.isRef = true))
    {ks : Nat} (hS : s.Since vm₁ ks) (hk : ks ≤ T.heap.size) (hd : decode c.code pc = .ok (i, 1)) (hlk : meth.locks = false) {Qq : Option Value → Heap → List Loc → Prop} {C S : Nat} (hQ : Qq (some w) T.heap locs) (hc : cells ≤ C) (hs : slots ≤ S) :
    own_Done p.tables e below (own_RW Qq s C S) T (mkF m pc Ls (w :: rest)) := by
  obtain ⟨fs, hr, hrun, hended, hW⟩ := X.leaveW hS hk (v := some w) (fun h => by rw [hret] at h; cases h) hlk
  exact ⟨_, _, retOut X hx hret hn hi hd hr, hrun, hended, _, _, rfl, hQ, hW.1, hW.2.1, hW.2.2.1, hW.2.2.2.mono hc hs⟩
theorem own_retIW {vm₁ : Vm} (X : Stand p l e Rm (s.setVm vm₁) m args below meth c T locs cells slots) (hx : p.tables.exec = Jvm.exec) {pc : Nat} {Ls : Array Slot} {z : Int32} {rest : List Value} (hret : meth.sig.returnType = some .int) {ks : Nat} (hS : s.Since vm₁ ks) (hk : ks ≤ T.heap.size) (hd : decode c.code pc = .ok (.ireturn, 1)) (hlk : meth.locks = false)
    {Qq : Option Value → Heap → List Loc → Prop} {C S : Nat} (hQ : Qq (some (.int z)) T.heap locs) (hc : cells ≤ C) (hs : slots ≤ S) : own_Done p.tables e below (own_RW Qq s C S) T (mkF m pc Ls (.int z :: rest)) :=
  own_retW X hx hret rfl (Or.inl ⟨rfl, Or.inl rfl, _, rfl⟩) hS hk hd hlk hQ hc hs
theorem own_retNW {vm₁ : Vm} (X : Stand p l e Rm (s.setVm vm₁) m args below meth c T locs cells slots) (hx : p.tables.exec = Jvm.exec) {pc : Nat} {Ls : Array Slot} {z : Int32} {t : FieldType} {rest : List Value} (hret : meth.sig.returnType = some t) (ht : t = .boolean ∨ t = .byte ∨ t = .char ∨ t = .short) (hn : narrow t (.int z) = .int z) {ks : Nat} (hS : s.Since vm₁ ks) (hk : ks ≤ T.heap.size) (hd : decode c.code pc = .ok (.ireturn, 1)) (hlk : meth.locks = false)
    {Qq : Option Value → Heap → List Loc → Prop} {C S : Nat} (hQ : Qq (some (.int z)) T.heap locs) (hc : cells ≤ C) (hs : slots ≤ S) : own_Done p.tables e below (own_RW Qq s C S) T (mkF m pc Ls (.int z :: rest)) :=
  own_retW X hx hret hn (Or.inl ⟨rfl, Or.inr ht, _, rfl⟩) hS hk hd hlk hQ hc hs
theorem own_retJW {vm₁ : Vm} (X : Stand p l e Rm (s.setVm vm₁) m args below meth c T locs cells slots) (hx : p.tables.exec = Jvm.exec) {pc : Nat} {Ls : Array Slot} {z : Int64} {rest : List Value} (hret : meth.sig.returnType = some .long) {ks : Nat} (hS : s.Since vm₁ ks) (hk : ks ≤ T.heap.size) (hd : decode c.code pc = .ok (.lreturn, 1)) (hlk : meth.locks = false)
    {Qq : Option Value → Heap → List Loc → Prop} {C S : Nat} (hQ : Qq (some (.long z)) T.heap locs) (hc : cells ≤ C) (hs : slots ≤ S) : own_Done p.tables e below (own_RW Qq s C S) T (mkF m pc Ls (.long z :: rest)) :=
  own_retW X hx hret rfl (Or.inr (Or.inl ⟨rfl, rfl, _, rfl⟩)) hS hk hd hlk hQ hc hs
theorem own_mono (X : Stand p l e Rm s m args below meth c T locs cells slots) {C S : Nat} (hc : cells ≤ C) (hs : slots ≤ S) : Stand p l e Rm s m args below meth c T locs C S :=
  { X with same := X.same.mono hc hs }
end Own
theorem own_cat1 {v : Value} (h : v.isRef = true) : v.category = 1 := by rcases ref_cases h with rfl | ⟨a, rfl⟩ <;> rfl
theorem own_fits {t : FieldType} {v : Value} (ht : t.isReference = true) (h : v.isRef = true) : fits t v = true := by rcases ref_cases h with rfl | ⟨a, rfl⟩ <;> cases t <;> first | rfl | cases ht
theorem own_nb {z : Int32} (h : z = 0 ∨ z = 1) : narrow .boolean (.int z) = .int z := by rcases h with rfl | rfl <;> rfl
theorem own_fb {z : Int32} (h : z = 0 ∨ z = 1) : fits .boolean (.int z) = true := by rcases h with rfl | rfl <;> rfl
theorem own_ext_refl (h : Heap) : Ext h h := ⟨Nat.le_refl _, fun _ _ q => q⟩
theorem own_ext_trans {h h' h2 : Heap} (A : Ext h h') (B : Ext h' h2) : Ext h h2 := ⟨Nat.le_trans A.1 B.1, fun a c q => B.2 a c (A.2 a c q)⟩
theorem own_O_wr {Z : State} {h h' : Heap} {a : Addr} {sl : Nat} {v : Value} (A : Ext Z.heap h) (B : Wr h h' a sl v) (q : Z.heap.size ≤ a) : Ext Z.heap h' := (Old.wr (⟨rfl, A⟩ : Old Z Z.heap.size h) B q).2
theorem own_O_keep {Z : State} {h h' : Heap} {ws : List Addr} (A : Ext Z.heap h) (B : Keep h h' ws) (q : ∀ a ∈ ws, Z.heap.size ≤ a) : Ext Z.heap h' := (Old.keep (⟨rfl, A⟩ : Old Z Z.heap.size h) B q).2
theorem own_eq_int {args : Array Value} {s : State} {t : Term} {k : Int32} (h : (Jvm.Cond.eq t (Term.int k)).value args s none s [] = some true) : t.eval args s none [] s = some (.int k) := by
  obtain ⟨u, v, h1, h2, h3, h4⟩ := cmp_v (Or.inl h)
  have h5 : v = .int k := (Option.some.inj h2).symm
  subst h5
  obtain ⟨z, rfl⟩ := h4
  rw [h1]
  simp only [Jvm.Cond.value, h1, h2, Option.some.injEq, decide_eq_true_eq] at h
  rw [h]
theorem own_fld_int {args : Array Value} {s : State} {t : Term} {C n d : String} {a : Addr} {k : Int32} (ht : t.eval args s none [] s = some (.ref a)) (h : (Jvm.Cond.eq (Term.field t C n d) (Term.int k)).value args s none s [] = some true) : s.fieldOf? a C n d = some (.int k) :=
  (fld_at ht).symm.trans (own_eq_int h)
theorem own_eq_ref {args : Array Value} {s : State} {t u : Term} {a : Addr} (h : (Jvm.Cond.eq t u).value args s none s [] = some true) (hu : u.eval args s none [] s = some (.ref a)) : t.eval args s none [] s = some (.ref a) := by
  obtain ⟨x1, y1, h1, h2, h3, h4⟩ := cmp_v (Or.inl h)
  obtain rfl : y1 = .ref a := Option.some.inj (h2.symm.trans hu)
  have hr : x1.isRef = true := by cases x1 <;> first | rfl | (simp [Kin] at h3; done) | exact h3.1
  have e := gotT (eq_R h1 h2 hr rfl) h
  rw [h1, e]
theorem own_len {args : Array Value} {s : State} {t : Term} {a : Addr} {cl : Cell} {n : Int32} (h : (Term.length t).eval args s none [] s = some (.int n)) (ht : t.eval args s none [] s = some (.ref a)) (hc : s.heap[a]? = some cl) : cl.slots.size < 2 ^ 31 ∧ cl.slots.size.toInt32 = n := by
  obtain ⟨a', cell, e1, e2, e3⟩ := Term.length_spec h
  cases ht.symm.trans e1
  cases hc.symm.trans (State.arrayAt?_spec e2).1
  by_cases q : cl.slots.size < 2 ^ 31
  · exact ⟨q, (Value.int.inj e3).symm⟩
  · simp [Term.eval, ht, e2, q] at h
theorem own_initFor {args : Array Value} {s : State} {C n d : String} (h1 : (Jvm.Cond.initializedFor C n d).before args s = true) (h2 : (Jvm.Cond.laysStatic C n d).before args s = true) : (Jvm.Cond.initialized C).before args s = true := by
  obtain ⟨c, k, i, f, a, cell, q1, q2, -⟩ := Cond.laysStatic_spec h2
  have q3 := Cond.initializedFor_spec q2 h1
  have q4 := State.fieldFound?_class q2
  simp [Cond.before, Cond.holds, Cond.value, q1, q4, q3]
theorem own_ns_root {Z : State} {a0 : Array Value} {Ob K : String} {n : Nat} (w : (Jvm.Cond.noSuperclass Ob).before a0 Z = true) (wk : (Jvm.Cond.instantiable K n).before a0 Z = true) (hn : Ob ≠ K) : NS Z Ob K := by
  obtain ⟨c, k, h1, h2, h3, -, -⟩ := Cond.noSuperclass_spec w
  obtain ⟨t, k2, g1, -⟩ := Cond.instantiable_spec wk
  have ne := ids_ne h1 g1 hn
  refine ⟨c, t, h1, g1, fun fuel => ?_⟩
  cases fuel with
  | zero => rfl
  | succ f => simp [Vm.isSubclassAux, ne, h2, h3]
theorem own_ns_no {Z : State} {a0 : Array Value} {C Sp K : String} {n : Nat} (w : (Jvm.Cond.superclass C Sp).before a0 Z = true) (wk : (Jvm.Cond.instantiable K n).before a0 Z = true) (ns : NS Z C K) (hn : C ≠ K) : ∃ c t, Z.vm.findClass C = some c ∧ Z.vm.findClass K = some t ∧ Z.vm.assignable c t = false := by
  obtain ⟨c, t, h0, g0, n3⟩ := ns
  obtain ⟨p, k, kp, h1, h2, h3, h4, h5, -, h7⟩ := Cond.superclass_spec h0 w
  obtain ⟨t', k', g1, g2, g3, g4, -⟩ := Cond.instantiable_spec wk
  cases g0.symm.trans g1
  have g5 : k'.isInterface = false := by
    simp only [Bool.or_eq_false_iff] at g4
    exact g4.1
  have ne := ids_ne h0 g0 hn
  refine ⟨c, t, h0, g0, ?_⟩
  show Z.vm.assignableAux (255 + 1) c t = false
  simp [Vm.assignableAux, ne, h2, g2, h5, g3, g5, Vm.isSubclass, n3]
theorem own_ext_keep {h h' : Heap} (K : Keep h h' []) : Ext h h' := ⟨K.1, fun a c q => K.2.1 a c q (fun z => nomatch z)⟩
theorem own_sub_at {args : Array Value} {first s : State} {o : Option Outcome} {idx : List Nat} {t u : Term} {v w : Int32} (ha : t.eval args first o idx s = some (.int v)) (hb : u.eval args first o idx s = some (.int w)) : (Term.sub t u).eval args first o idx s = some (.int (v - w)) := by simp [Term.eval, ha, hb]
def own_Bx (Z : State) (h : Heap) (w : Value) (b q : Int32) : Prop := (w = .null ∧ b = 1) ∨ (b = 0 ∧ ∃ r : Addr, w = .ref r ∧ Exa Z h r "java/lang/Integer" ∧ Fld Z h r "java/lang/Integer" "value" "I" (.int q))
theorem own_Bx.ext {Z : State} {h h' : Heap} {w : Value} {b q : Int32} (B : own_Bx Z h w b q) (E : Ext h h') : own_Bx Z h' w b q := by
  rcases B with B | ⟨e, r, rfl, X, F⟩
  · exact Or.inl B
  · exact Or.inr ⟨e, r, rfl, X.ext E, F.ext E⟩
theorem own_Bx.keep {Z : State} {h h' : Heap} {w : Value} {b q : Int32} {a : Addr} {C : String} (B : own_Bx Z h w b q) (K : Keep h h' [a]) (X' : Exa Z h a C) (hn : "java/lang/Integer" ≠ C) : own_Bx Z h' w b q := by
  rcases B with B | ⟨e, r, rfl, X, F⟩
  · exact Or.inl B
  · exact Or.inr ⟨e, r, rfl, X.keep K, F.keep K (ninS (ne_exa X X' hn) nin0)⟩
theorem own_Bx.isRef {Z : State} {h : Heap} {w : Value} {b q : Int32} (B : own_Bx Z h w b q) : w.isRef = true := by
  rcases B with ⟨rfl, -⟩ | ⟨-, r, rfl, -, -⟩ <;> rfl
def own_eqv (b1 x1 b2 x2 : Int32) : Int32 := if b1 = 0 then (if b2 = 0 then (if x1 = x2 then 1 else 0) else 0) else (if b2 = 0 then 0 else 1)
theorem own_eqv_self (b z : Int32) : own_eqv b z b z = 1 := by
  unfold own_eqv
  by_cases h : b = 0 <;> simp [h]
theorem own_fld_uniq {Z : State} {h : Heap} {a : Addr} {C n d : String} {v w : Value} (F : Fld Z h a C n d v) (G : Fld Z h a C n d w) : v = w := by
  by_cases q : v = w
  · exact q
  · exact absurd rfl (F.ne G q)
theorem own_selects_private {args : Array Value} {s : State} {y : MethodName} {n : Nat} (hinst : (Jvm.Cond.instanceMethod y).before args s = true) (hpriv : (Jvm.Cond.privateMethod y).before args s = true) (hi : (Jvm.Cond.instantiable y.cls n).before args s = true) (hy : y.cls ≠ "java/lang/invoke/MethodHandle" ∧ y.cls ≠ "java/lang/invoke/VarHandle") : (Jvm.Cond.selects y.cls y y).before args s = true := by
  obtain ⟨mk, methM, hnamed, hmethM, hstM, habM⟩ := Cond.instanceMethod_spec hinst
  have hc := findClass_of_methodNamed hnamed
  obtain ⟨c, k, g1, g2, g3, g4, -⟩ := Cond.instantiable_spec hi
  cases hc.symm.trans g1
  have hf := State.methodFound?_of_named hnamed hy
  have hs : selectMethod {} s.vm mk.cls mk = .method mk := selectMethod_private hmethM (Cond.privateMethod_at hpriv mk methM hnamed hmethM)
  have g5 : k.isInterface = false := by
    simp only [Bool.or_eq_false_iff] at g4
    exact g4.1
  simp [Cond.before, Cond.holds, Cond.value, hc, hf, hnamed, hs, g2, g5]
def Ctx (Z : State) (a0 : Array Value) (w_FALSE : Addr) (w_TRUE : Addr) (w_lc : Addr) (cl_lc : Cell) : Prop := (∀ d ∈ tables_1, d.before a0 Z = true) ∧ Sta Z Z.heap "com/example/sundew/sundew/value/BooleanValue" "FALSE" "Lcom/example/sundew/sundew/value/BooleanValue;" (.ref w_FALSE) ∧ Exa Z Z.heap w_FALSE "com/example/sundew/sundew/value/BooleanValue" ∧ Sta Z Z.heap "com/example/sundew/sundew/value/BooleanValue" "TRUE" "Lcom/example/sundew/sundew/value/BooleanValue;" (.ref w_TRUE) ∧ Exa Z Z.heap w_TRUE "com/example/sundew/sundew/value/BooleanValue" ∧ Sta Z Z.heap "java/lang/Long$LongCache" "cache" "[Ljava/lang/Long;" (.ref w_lc) ∧ Bxs Z w_lc cl_lc "java/lang/Long" "J" 256 (fun j => .long (j - 128).toInt64) ∧ True
def Q0 (Z : State) (v : Option Value) (h : Heap) (L : List Loc) : Prop := v = some (.int (1 : Int32)) ∧ Fr Z.heap.size L
def QP (Z : State) (r : Value) (h0 : Heap) (v : Option Value) (h : Heap) (L : List Loc) : Prop := v = some r ∧ Fr Z.heap.size L ∧ h = h0
def QV (Z : State) (h0 : Heap) (v : Option Value) (h : Heap) (L : List Loc) : Prop := v = none ∧ Fr Z.heap.size L ∧ h = h0
def QLV (Z : State) (h0 : Heap) (v : Option Value) (h : Heap) (L : List Loc) : Prop := ∃ r : Addr, v = some (.ref r) ∧ Fr Z.heap.size L ∧ Ext h0 h ∧ Exa Z h r "java/lang/Long"
theorem own_lidx (q : Int64) (h1 : ¬ lcmpW q (-128 : Int64) < (0 : Int32)) (h2 : ¬ (0 : Int32) < lcmpW q (127 : Int64)) : ¬ (q.toInt32 + (128 : Int32)) < 0 ∧ (q.toInt32 + (128 : Int32)) < 256 := by
  rw [lw_lt, Int64.lt_iff_toInt_lt] at h1
  rw [lw_gt, Int64.lt_iff_toInt_lt] at h2
  have k1 : (-128 : Int64).toInt = -128 := by decide
  have k2 : (127 : Int64).toInt = 127 := by decide
  have k3 : (128 : Int32).toInt = 128 := by decide
  have k4 : (256 : Int32).toInt = 256 := by decide
  have k5 : (0 : Int32).toInt = 0 := by decide
  have a := c_l2i q
  have b := c_iadd q.toInt32 128
  have r1 := rng32 q.toInt32
  have r2 := rng32 (q.toInt32 + 128)
  rw [Int32.lt_iff_toInt_lt, Int32.lt_iff_toInt_lt]
  rw [k1] at h1; rw [k2] at h2; rw [k3] at b; rw [k4, k5]
  omega
theorem d2_0 : decode jdk_30_method_1_code 0 = .ok (.aload_n 0, 1) := by decide +kernel
theorem d2_1 : decode jdk_30_method_1_code 1 = .ok (.invokespecial 1, 3) := by decide +kernel
theorem d2_4 : decode jdk_30_method_1_code 4 = .ok (.return_, 1) := by decide +kernel
theorem pn_0 : plainName "java/lang/Record" = true := by first | (simp [plainName, overriddenIn]; done) | decide +kernel
set_option maxRecDepth 65536 in
set_option maxHeartbeats 40000000 in
theorem rm2 (l : Launch) (Z : State) (a0 : Array Value) {w_FALSE : Addr} {w_TRUE : Addr} {w_lc : Addr} {cl_lc : Cell} (CX : Ctx Z a0 w_FALSE w_TRUE w_lc cl_lc) (ws : List Jvm.Cond) (a1 : Addr) (h0 : Heap) (O : Ext Z.heap h0)  :
    MetFree l (⟨"java/lang/Record", "<init>", "()V"⟩ : MethodName) (head1 (Jvm.Cond.code (⟨"java/lang/Record", "<init>", "()V"⟩ : MethodName) jdk_30_method_1_code 1 none :: ws) ({ frames := 1, cells := 0, slots := 0, locals := 12 } : Room)) (fun a U => a = #[(.ref a1)] ∧ Z.Warmed39 U.vm ∧ U.heap = h0) (fun _ _ _ _ _ => True) (fun _ U o U' => ∃ v L, o = .returned v ∧ QV Z h0 v U'.heap L ∧ FrameEnd U o U' L ({ frames := 1, cells := 0, slots := 0, locals := 12 } : Room).cells ({ frames := 1, cells := 0, slots := 0, locals := 12 } : Room).slots) := by
  refine MetFree.of_bodySF (plainFor_of_name pn_0) hisR ?_
  intro p e s m args below meth c s₁ Bd hml0 hP hK
  obtain ⟨rfl, hZ, hh⟩ := hP
  have CX0 := CX
  obtain ⟨hw, S_FALSE, E_FALSE, S_TRUE, E_TRUE, S_lc, B_lc, -⟩ := CX0
  have hx := Bd.exec
  have hby := Bd.bytes
  have hml : c.maxLocals = 1 := hml0
  have hown : s.vm.findClass "java/lang/Record" = some m.cls := findClass_of_methodNamed Bd.named
  have hnm := (name_of_methodNamed Bd.named Bd.method).1
  have hlk : meth.locks = false := BodyLoose.notSynchronized Bd
  have X0 : Stand p l e ({ frames := 1, cells := 0, slots := 0, locals := 12 } : Room) s m #[(.ref a1)] below meth c s₁ [] 0 0 := Stand.of_body Bd
  have e0 : s₁.heap = h0 := by rw [← hh, Bd.state]; rfl
  have N := Fr.nil Z.heap.size
  show own_Done p.tables e below (own_R (QV Z h0) s 0 0) s₁ (entryFrame m #[(.ref a1)] 1)
  refine own_st (T' := s₁) (F' := (mkF m 0 #[.val (.ref a1)] [])) (fun t k => castTop (by first | rfl | (simp [entryFrame, mkF, argsToLocals, Value.category]; done)) k) ?_
  refine own_st (T' := s₁) (F' := (mkF m 1 #[.val (.ref a1)] [(.ref a1)])) (fun t k => XS.aloadN X0.here hx rfl (hb hby d2_0) rfl rfl k) ?_
  obtain ⟨T1, X1, e1, st1⟩ := initO X0 hx hZ hown (hw _ (List.mem_of_getElem? (i := 11) rfl)) (hw _ (List.mem_of_getElem? (i := 12) rfl)) (hw _ (List.mem_of_getElem? (i := 13) rfl)) e0 (g := (mkF m 1 #[.val (.ref a1)] [(.ref a1)])) rfl (by rw [hml]; rfl) rfl (hb hby d2_1) (by decide) (W := 0) (by show 2 * 0 + _ ≤ _; exact Nat.le_of_eq rfl) (by decide)
  refine own_st (T' := T1) (F' := (mkF m 4 #[.val (.ref a1)] [])) st1 ?_
  exact own_retV X1 hx Bd.returns (hb hby d2_4) hlk (by show QV Z h0 _ T1.heap _; rw [e1]; exact ⟨rfl, N, rfl⟩) (by decide) (by decide)
theorem d7_0 : decode jdk_18_method_1_code 0 = .ok (.aload_n 0, 1) := by decide +kernel
theorem d7_1 : decode jdk_18_method_1_code 1 = .ok (.invokespecial 1, 3) := by decide +kernel
theorem d7_4 : decode jdk_18_method_1_code 4 = .ok (.return_, 1) := by decide +kernel
theorem pn_1 : plainName "java/lang/Number" = true := by first | (simp [plainName, overriddenIn]; done) | decide +kernel
set_option maxRecDepth 65536 in
set_option maxHeartbeats 40000000 in
theorem rm7 (l : Launch) (Z : State) (a0 : Array Value) {w_FALSE : Addr} {w_TRUE : Addr} {w_lc : Addr} {cl_lc : Cell} (CX : Ctx Z a0 w_FALSE w_TRUE w_lc cl_lc) (ws : List Jvm.Cond) (a1 : Addr) (h0 : Heap) (O : Ext Z.heap h0)  :
    MetFree l (⟨"java/lang/Number", "<init>", "()V"⟩ : MethodName) (head1 (Jvm.Cond.code (⟨"java/lang/Number", "<init>", "()V"⟩ : MethodName) jdk_18_method_1_code 1 none :: ws) ({ frames := 1, cells := 0, slots := 0, locals := 12 } : Room)) (fun a U => a = #[(.ref a1)] ∧ Z.Warmed39 U.vm ∧ U.heap = h0) (fun _ _ _ _ _ => True) (fun _ U o U' => ∃ v L, o = .returned v ∧ QV Z h0 v U'.heap L ∧ FrameEnd U o U' L ({ frames := 1, cells := 0, slots := 0, locals := 12 } : Room).cells ({ frames := 1, cells := 0, slots := 0, locals := 12 } : Room).slots) := by
  refine MetFree.of_bodySF (plainFor_of_name pn_1) hisR ?_
  intro p e s m args below meth c s₁ Bd hml0 hP hK
  obtain ⟨rfl, hZ, hh⟩ := hP
  have CX0 := CX
  obtain ⟨hw, S_FALSE, E_FALSE, S_TRUE, E_TRUE, S_lc, B_lc, -⟩ := CX0
  have hx := Bd.exec
  have hby := Bd.bytes
  have hml : c.maxLocals = 1 := hml0
  have hown : s.vm.findClass "java/lang/Number" = some m.cls := findClass_of_methodNamed Bd.named
  have hnm := (name_of_methodNamed Bd.named Bd.method).1
  have hlk : meth.locks = false := BodyLoose.notSynchronized Bd
  have X0 : Stand p l e ({ frames := 1, cells := 0, slots := 0, locals := 12 } : Room) s m #[(.ref a1)] below meth c s₁ [] 0 0 := Stand.of_body Bd
  have e0 : s₁.heap = h0 := by rw [← hh, Bd.state]; rfl
  have N := Fr.nil Z.heap.size
  show own_Done p.tables e below (own_R (QV Z h0) s 0 0) s₁ (entryFrame m #[(.ref a1)] 1)
  refine own_st (T' := s₁) (F' := (mkF m 0 #[.val (.ref a1)] [])) (fun t k => castTop (by first | rfl | (simp [entryFrame, mkF, argsToLocals, Value.category]; done)) k) ?_
  refine own_st (T' := s₁) (F' := (mkF m 1 #[.val (.ref a1)] [(.ref a1)])) (fun t k => XS.aloadN X0.here hx rfl (hb hby d7_0) rfl rfl k) ?_
  obtain ⟨T1, X1, e1, st1⟩ := initO X0 hx hZ hown (hw _ (List.mem_of_getElem? (i := 48) rfl)) (hw _ (List.mem_of_getElem? (i := 12) rfl)) (hw _ (List.mem_of_getElem? (i := 13) rfl)) e0 (g := (mkF m 1 #[.val (.ref a1)] [(.ref a1)])) rfl (by rw [hml]; rfl) rfl (hb hby d7_1) (by decide) (W := 0) (by show 2 * 0 + _ ≤ _; exact Nat.le_of_eq rfl) (by decide)
  refine own_st (T' := T1) (F' := (mkF m 4 #[.val (.ref a1)] [])) st1 ?_
  exact own_retV X1 hx Bd.returns (hb hby d7_4) hlk (by show QV Z h0 _ T1.heap _; rw [e1]; exact ⟨rfl, N, rfl⟩) (by decide) (by decide)
def Q_rm1 (Z : State) (a1 : Addr) (p1 : Int64) (u_value : Int64) (h0 : Heap) (v : Option Value) (h : Heap) (L : List Loc) : Prop := v = none ∧ Fr Z.heap.size L ∧ Keep h0 h [a1] ∧ Fld Z h a1 "com/example/sundew/sundew/value/IntegerValue" "value" "J" (.long p1)
theorem d1_0 : decode prog_160_method_1_code 0 = .ok (.aload_n 0, 1) := by decide +kernel
theorem d1_1 : decode prog_160_method_1_code 1 = .ok (.invokespecial 1, 3) := by decide +kernel
theorem d1_4 : decode prog_160_method_1_code 4 = .ok (.aload_n 0, 1) := by decide +kernel
theorem d1_5 : decode prog_160_method_1_code 5 = .ok (.lload_n 1, 1) := by decide +kernel
theorem d1_6 : decode prog_160_method_1_code 6 = .ok (.putfield 7, 3) := by decide +kernel
theorem d1_9 : decode prog_160_method_1_code 9 = .ok (.return_, 1) := by decide +kernel
theorem pn_2 : plainName "com/example/sundew/sundew/value/IntegerValue" = true := by first | (simp [plainName, overriddenIn]; done) | decide +kernel
theorem pd_0 : parseMethodDescriptor "()V" = some ⟨[], none⟩ := by decide +kernel
set_option maxRecDepth 65536 in
set_option maxHeartbeats 40000000 in
theorem rm1 (l : Launch) (Z : State) (a0 : Array Value) {w_FALSE : Addr} {w_TRUE : Addr} {w_lc : Addr} {cl_lc : Cell} (CX : Ctx Z a0 w_FALSE w_TRUE w_lc cl_lc) (ws : List Jvm.Cond) (a1 : Addr) (p1 : Int64) (u_value : Int64) (h0 : Heap) (O : Ext Z.heap h0) (E_a1 : Exa Z h0 a1 "com/example/sundew/sundew/value/IntegerValue") (g_a1 : Z.heap.size ≤ a1) (F_value : Fld Z h0 a1 "com/example/sundew/sundew/value/IntegerValue" "value" "J" (.long u_value)) :
    MetFree l (⟨"com/example/sundew/sundew/value/IntegerValue", "<init>", "(J)V"⟩ : MethodName) (head1 (Jvm.Cond.code (⟨"com/example/sundew/sundew/value/IntegerValue", "<init>", "(J)V"⟩ : MethodName) prog_160_method_1_code 3 none :: ws) ({ frames := 2, cells := 0, slots := 0, locals := 24 } : Room)) (fun a U => a = #[(.ref a1), (.long p1)] ∧ Z.Warmed39 U.vm ∧ U.heap = h0) (fun _ _ _ _ _ => True) (fun _ U o U' => ∃ v L, o = .returned v ∧ Q_rm1 Z a1 p1 u_value h0 v U'.heap L ∧ FrameEnd U o U' L ({ frames := 2, cells := 0, slots := 0, locals := 24 } : Room).cells ({ frames := 2, cells := 0, slots := 0, locals := 24 } : Room).slots) := by
  refine MetFree.of_bodySF (plainFor_of_name pn_2) hisR ?_
  intro p e s m args below meth c s₁ Bd hml0 hP hK
  obtain ⟨rfl, hZ, hh⟩ := hP
  have CX0 := CX
  obtain ⟨hw, S_FALSE, E_FALSE, S_TRUE, E_TRUE, S_lc, B_lc, -⟩ := CX0
  have hx := Bd.exec
  have hby := Bd.bytes
  have hml : c.maxLocals = 3 := hml0
  have hown : s.vm.findClass "com/example/sundew/sundew/value/IntegerValue" = some m.cls := findClass_of_methodNamed Bd.named
  have hnm := (name_of_methodNamed Bd.named Bd.method).1
  have hlk : meth.locks = false := BodyLoose.notSynchronized Bd
  have X0 : Stand p l e ({ frames := 2, cells := 0, slots := 0, locals := 24 } : Room) s m #[(.ref a1), (.long p1)] below meth c s₁ [] 0 0 := Stand.of_body Bd
  have e0 : s₁.heap = h0 := by rw [← hh, Bd.state]; rfl
  have N := Fr.nil Z.heap.size
  show own_Done p.tables e below (own_R (Q_rm1 Z a1 p1 u_value h0) s 0 0) s₁ (entryFrame m #[(.ref a1), (.long p1)] 3)
  refine own_st (T' := s₁) (F' := (mkF m 0 #[.val (.ref a1), .val (.long p1), .second] [])) (fun t k => castTop (by first | rfl | (simp [entryFrame, mkF, argsToLocals, Value.category]; done)) k) ?_
  have KP := Keep.refl h0 [a1]
  refine own_st (T' := s₁) (F' := (mkF m 1 #[.val (.ref a1), .val (.long p1), .second] [(.ref a1)])) (fun t k => XS.aloadN X0.here hx rfl (hb hby d1_0) rfl rfl k) ?_
  obtain ⟨v1, _, ⟨T1, L1, k1, n1⟩, -, X1, ⟨Lc1, hQ1, l1, y1, z1⟩, st1⟩ := X0.specialBack hx (y := (⟨"java/lang/Record", "<init>", "()V"⟩ : MethodName)) rfl hown (mvT hZ (hw _ (List.mem_of_getElem? (i := 6) rfl))) (mvT hZ (hw _ (List.mem_of_getElem? (i := 7) rfl))) (mvT hZ (hw _ (List.mem_of_getElem? (i := 10) rfl))) (by decide) (backOf (W := 0) (rm2 l Z a0 CX [] a1 h0 O) hZ (hw _ (List.mem_of_getElem? (i := 10) rfl)) (hw _ (List.mem_of_getElem? (i := 9) rfl)) (by decide) (by decide)) (g := (mkF m 1 #[.val (.ref a1), .val (.long p1), .second] [(.ref a1)])) rfl (by rw [hml]; rfl) (Steps.refl _) (a := a1) (argsL := []) (rest := []) (lenOf pd_0 rfl) rfl (by show 2 * 0 + _ ≤ _; exact Nat.le_of_eq rfl) (hb hby d1_1) (fun _ _ => ⟨rfl, e0, (by decide : 0 + 0 ≤ _), (by decide : 0 + 0 ≤ _)⟩)
  dsimp only [Pt.U, Pt.locs, Pt.cells, Pt.slots] at X1 l1 y1 z1 st1 hQ1
  subst l1 y1 z1
  obtain ⟨rfl, N1q, e1⟩ := hQ1
  have N := Fr.app N N1q
  refine own_tr (T' := T1) (F' := (mkF m 4 #[.val (.ref a1), .val (.long p1), .second] [])) st1 ?_
  refine own_st (T' := T1) (F' := (mkF m 5 #[.val (.ref a1), .val (.long p1), .second] [(.ref a1)])) (fun t k => XS.aloadN X1.here hx rfl (hb hby d1_4) rfl rfl k) ?_
  refine own_st (T' := T1) (F' := (mkF m 6 #[.val (.ref a1), .val (.long p1), .second] [(.long p1), (.ref a1)])) (fun t k => XS.lloadN X1.here hx rfl (hb hby d1_5) rfl k) ?_
  obtain ⟨T2, h2, X2, e2, W2, st2⟩ := putF X1 hx hZ hown (host := "") (Or.inl (hw _ (List.mem_of_getElem? (i := 14) rfl))) Via.refl e1 F_value E_a1 (Or.inr ⟨(hw _ (List.mem_of_getElem? (i := 15) rfl)), rfl, hnm⟩) (hw _ (List.mem_of_getElem? (i := 1) rfl)) (ty := .long) (by decide) rfl rfl (g := (mkF m 6 #[.val (.ref a1), .val (.long p1), .second] [(.long p1), (.ref a1)])) rfl rfl (hb hby d1_6)
  have E_a1 := E_a1.wr W2
  have O := own_O_wr O W2 g_a1
  have N := Fr.snoc X2 N g_a1
  have KP := KP.wr W2 (Or.inl (List.mem_of_getElem? (i := 0) rfl))
  have F_value := F_value.same W2
  refine own_st (T' := T2) (F' := (mkF m 9 #[.val (.ref a1), .val (.long p1), .second] [])) st2 ?_
  exact own_retV X2 hx Bd.returns (hb hby d1_9) hlk (by show Q_rm1 Z a1 p1 u_value h0 _ T2.heap _; rw [e2]; exact ⟨rfl, N, KP, F_value⟩) (by decide) (by decide)
def Q_rm6 (Z : State) (a1 : Addr) (p1 : Int64) (u_value : Int64) (h0 : Heap) (v : Option Value) (h : Heap) (L : List Loc) : Prop := v = none ∧ Fr Z.heap.size L ∧ Keep h0 h [a1] ∧ Fld Z h a1 "java/lang/Long" "value" "J" (.long p1)
theorem d6_0 : decode jdk_35_method_26_code 0 = .ok (.aload_n 0, 1) := by decide +kernel
theorem d6_1 : decode jdk_35_method_26_code 1 = .ok (.invokespecial 270, 3) := by decide +kernel
theorem d6_4 : decode jdk_35_method_26_code 4 = .ok (.aload_n 0, 1) := by decide +kernel
theorem d6_5 : decode jdk_35_method_26_code 5 = .ok (.lload_n 1, 1) := by decide +kernel
theorem d6_6 : decode jdk_35_method_26_code 6 = .ok (.putfield 273, 3) := by decide +kernel
theorem d6_9 : decode jdk_35_method_26_code 9 = .ok (.return_, 1) := by decide +kernel
theorem pn_3 : plainName "java/lang/Long" = true := by first | (simp [plainName, overriddenIn]; done) | decide +kernel
set_option maxRecDepth 65536 in
set_option maxHeartbeats 40000000 in
theorem rm6 (l : Launch) (Z : State) (a0 : Array Value) {w_FALSE : Addr} {w_TRUE : Addr} {w_lc : Addr} {cl_lc : Cell} (CX : Ctx Z a0 w_FALSE w_TRUE w_lc cl_lc) (ws : List Jvm.Cond) (a1 : Addr) (p1 : Int64) (u_value : Int64) (h0 : Heap) (O : Ext Z.heap h0) (E_a1 : Exa Z h0 a1 "java/lang/Long") (g_a1 : Z.heap.size ≤ a1) (F_value : Fld Z h0 a1 "java/lang/Long" "value" "J" (.long u_value)) :
    MetFree l (⟨"java/lang/Long", "<init>", "(J)V"⟩ : MethodName) (head1 (Jvm.Cond.code (⟨"java/lang/Long", "<init>", "(J)V"⟩ : MethodName) jdk_35_method_26_code 3 none :: ws) ({ frames := 2, cells := 0, slots := 0, locals := 24 } : Room)) (fun a U => a = #[(.ref a1), (.long p1)] ∧ Z.Warmed39 U.vm ∧ U.heap = h0) (fun _ _ _ _ _ => True) (fun _ U o U' => ∃ v L, o = .returned v ∧ Q_rm6 Z a1 p1 u_value h0 v U'.heap L ∧ FrameEnd U o U' L ({ frames := 2, cells := 0, slots := 0, locals := 24 } : Room).cells ({ frames := 2, cells := 0, slots := 0, locals := 24 } : Room).slots) := by
  refine MetFree.of_bodySF (plainFor_of_name pn_3) hisR ?_
  intro p e s m args below meth c s₁ Bd hml0 hP hK
  obtain ⟨rfl, hZ, hh⟩ := hP
  have CX0 := CX
  obtain ⟨hw, S_FALSE, E_FALSE, S_TRUE, E_TRUE, S_lc, B_lc, -⟩ := CX0
  have hx := Bd.exec
  have hby := Bd.bytes
  have hml : c.maxLocals = 3 := hml0
  have hown : s.vm.findClass "java/lang/Long" = some m.cls := findClass_of_methodNamed Bd.named
  have hnm := (name_of_methodNamed Bd.named Bd.method).1
  have hlk : meth.locks = false := BodyLoose.notSynchronized Bd
  have X0 : Stand p l e ({ frames := 2, cells := 0, slots := 0, locals := 24 } : Room) s m #[(.ref a1), (.long p1)] below meth c s₁ [] 0 0 := Stand.of_body Bd
  have e0 : s₁.heap = h0 := by rw [← hh, Bd.state]; rfl
  have N := Fr.nil Z.heap.size
  show own_Done p.tables e below (own_R (Q_rm6 Z a1 p1 u_value h0) s 0 0) s₁ (entryFrame m #[(.ref a1), (.long p1)] 3)
  refine own_st (T' := s₁) (F' := (mkF m 0 #[.val (.ref a1), .val (.long p1), .second] [])) (fun t k => castTop (by first | rfl | (simp [entryFrame, mkF, argsToLocals, Value.category]; done)) k) ?_
  have KP := Keep.refl h0 [a1]
  refine own_st (T' := s₁) (F' := (mkF m 1 #[.val (.ref a1), .val (.long p1), .second] [(.ref a1)])) (fun t k => XS.aloadN X0.here hx rfl (hb hby d6_0) rfl rfl k) ?_
  obtain ⟨v1, _, ⟨T1, L1, k1, n1⟩, -, X1, ⟨Lc1, hQ1, l1, y1, z1⟩, st1⟩ := X0.specialBack hx (y := (⟨"java/lang/Number", "<init>", "()V"⟩ : MethodName)) rfl hown (mvT hZ (hw _ (List.mem_of_getElem? (i := 42) rfl))) (mvT hZ (hw _ (List.mem_of_getElem? (i := 43) rfl))) (mvT hZ (hw _ (List.mem_of_getElem? (i := 47) rfl))) (by decide) (backOf (W := 0) (rm7 l Z a0 CX [] a1 h0 O) hZ (hw _ (List.mem_of_getElem? (i := 47) rfl)) (hw _ (List.mem_of_getElem? (i := 46) rfl)) (by decide) (by decide)) (g := (mkF m 1 #[.val (.ref a1), .val (.long p1), .second] [(.ref a1)])) rfl (by rw [hml]; rfl) (Steps.refl _) (a := a1) (argsL := []) (rest := []) (lenOf pd_0 rfl) rfl (by show 2 * 0 + _ ≤ _; exact Nat.le_of_eq rfl) (hb hby d6_1) (fun _ _ => ⟨rfl, e0, (by decide : 0 + 0 ≤ _), (by decide : 0 + 0 ≤ _)⟩)
  dsimp only [Pt.U, Pt.locs, Pt.cells, Pt.slots] at X1 l1 y1 z1 st1 hQ1
  subst l1 y1 z1
  obtain ⟨rfl, N1q, e1⟩ := hQ1
  have N := Fr.app N N1q
  refine own_tr (T' := T1) (F' := (mkF m 4 #[.val (.ref a1), .val (.long p1), .second] [])) st1 ?_
  refine own_st (T' := T1) (F' := (mkF m 5 #[.val (.ref a1), .val (.long p1), .second] [(.ref a1)])) (fun t k => XS.aloadN X1.here hx rfl (hb hby d6_4) rfl rfl k) ?_
  refine own_st (T' := T1) (F' := (mkF m 6 #[.val (.ref a1), .val (.long p1), .second] [(.long p1), (.ref a1)])) (fun t k => XS.lloadN X1.here hx rfl (hb hby d6_5) rfl k) ?_
  obtain ⟨T2, h2, X2, e2, W2, st2⟩ := putF X1 hx hZ hown (host := "") (Or.inl (hw _ (List.mem_of_getElem? (i := 49) rfl))) Via.refl e1 F_value E_a1 (Or.inr ⟨(hw _ (List.mem_of_getElem? (i := 50) rfl)), rfl, hnm⟩) (hw _ (List.mem_of_getElem? (i := 37) rfl)) (ty := .long) (by decide) rfl rfl (g := (mkF m 6 #[.val (.ref a1), .val (.long p1), .second] [(.long p1), (.ref a1)])) rfl rfl (hb hby d6_6)
  have E_a1 := E_a1.wr W2
  have O := own_O_wr O W2 g_a1
  have N := Fr.snoc X2 N g_a1
  have KP := KP.wr W2 (Or.inl (List.mem_of_getElem? (i := 0) rfl))
  have F_value := F_value.same W2
  refine own_st (T' := T2) (F' := (mkF m 9 #[.val (.ref a1), .val (.long p1), .second] [])) st2 ?_
  exact own_retV X2 hx Bd.returns (hb hby d6_9) hlk (by show Q_rm6 Z a1 p1 u_value h0 _ T2.heap _; rw [e2]; exact ⟨rfl, N, KP, F_value⟩) (by decide) (by decide)
theorem d5_0 : decode jdk_35_method_24_code 0 = .ok (.sipush 128, 3) := by decide +kernel
theorem d5_3 : decode jdk_35_method_24_code 3 = .ok (.istore_n 2, 1) := by decide +kernel
theorem d5_4 : decode jdk_35_method_24_code 4 = .ok (.lload_n 0, 1) := by decide +kernel
theorem d5_5 : decode jdk_35_method_24_code 5 = .ok (.ldc2_w 230, 3) := by decide +kernel
theorem d5_8 : decode jdk_35_method_24_code 8 = .ok (.lcmp, 1) := by decide +kernel
theorem d5_9 : decode jdk_35_method_24_code 9 = .ok (.ifCond .lt 22, 3) := by decide +kernel
theorem d5_12 : decode jdk_35_method_24_code 12 = .ok (.lload_n 0, 1) := by decide +kernel
theorem d5_13 : decode jdk_35_method_24_code 13 = .ok (.ldc2_w 232, 3) := by decide +kernel
theorem d5_16 : decode jdk_35_method_24_code 16 = .ok (.lcmp, 1) := by decide +kernel
theorem d5_17 : decode jdk_35_method_24_code 17 = .ok (.ifCond .gt 14, 3) := by decide +kernel
theorem d5_20 : decode jdk_35_method_24_code 20 = .ok (.getstatic 234, 3) := by decide +kernel
theorem d5_23 : decode jdk_35_method_24_code 23 = .ok (.lload_n 0, 1) := by decide +kernel
theorem d5_24 : decode jdk_35_method_24_code 24 = .ok (.l2i, 1) := by decide +kernel
theorem d5_25 : decode jdk_35_method_24_code 25 = .ok (.sipush 128, 3) := by decide +kernel
theorem d5_28 : decode jdk_35_method_24_code 28 = .ok (.iadd, 1) := by decide +kernel
theorem d5_29 : decode jdk_35_method_24_code 29 = .ok (.aaload, 1) := by decide +kernel
theorem d5_30 : decode jdk_35_method_24_code 30 = .ok (.areturn, 1) := by decide +kernel
theorem d5_31 : decode jdk_35_method_24_code 31 = .ok (.new 1, 3) := by decide +kernel
theorem d5_34 : decode jdk_35_method_24_code 34 = .ok (.dup, 1) := by decide +kernel
theorem d5_35 : decode jdk_35_method_24_code 35 = .ok (.lload_n 0, 1) := by decide +kernel
theorem d5_36 : decode jdk_35_method_24_code 36 = .ok (.invokespecial 240, 3) := by decide +kernel
theorem d5_39 : decode jdk_35_method_24_code 39 = .ok (.areturn, 1) := by decide +kernel
theorem pd_1 : parseMethodDescriptor "(J)V" = some ⟨[.long], none⟩ := by decide +kernel
set_option maxRecDepth 65536 in
set_option maxHeartbeats 40000000 in
theorem rm5 (l : Launch) (Z : State) (a0 : Array Value) {w_FALSE : Addr} {w_TRUE : Addr} {w_lc : Addr} {cl_lc : Cell} (CX : Ctx Z a0 w_FALSE w_TRUE w_lc cl_lc) (ws : List Jvm.Cond) (p1 : Int64) (h0 : Heap) (O : Ext Z.heap h0)  :
    MetFree l (⟨"java/lang/Long", "valueOf", "(J)Ljava/lang/Long;"⟩ : MethodName) (head1 (Jvm.Cond.code (⟨"java/lang/Long", "valueOf", "(J)Ljava/lang/Long;"⟩ : MethodName) jdk_35_method_24_code 3 (some (.object "java/lang/Long")) :: ws) ({ frames := 3, cells := 1, slots := 1, locals := 39 } : Room)) (fun a U => a = #[(.long p1)] ∧ Z.Warmed39 U.vm ∧ U.heap = h0) (fun _ _ _ _ _ => True) (fun _ U o U' => ∃ v L, o = .returned v ∧ QLV Z h0 v U'.heap L ∧ FrameEnd U o U' L ({ frames := 3, cells := 1, slots := 1, locals := 39 } : Room).cells ({ frames := 3, cells := 1, slots := 1, locals := 39 } : Room).slots) := by
  refine MetFree.of_bodySF (plainFor_of_name pn_3) hisR ?_
  intro p e s m args below meth c s₁ Bd hml0 hP hK
  obtain ⟨rfl, hZ, hh⟩ := hP
  have CX0 := CX
  obtain ⟨hw, S_FALSE, E_FALSE, S_TRUE, E_TRUE, S_lc, B_lc, -⟩ := CX0
  have hx := Bd.exec
  have hby := Bd.bytes
  have hml : c.maxLocals = 3 := hml0
  have hown : s.vm.findClass "java/lang/Long" = some m.cls := findClass_of_methodNamed Bd.named
  have hnm := (name_of_methodNamed Bd.named Bd.method).1
  have hlk : meth.locks = false := BodyLoose.notSynchronized Bd
  have X0 : Stand p l e ({ frames := 3, cells := 1, slots := 1, locals := 39 } : Room) s m #[(.long p1)] below meth c s₁ [] 0 0 := Stand.of_body Bd
  have e0 : s₁.heap = h0 := by rw [← hh, Bd.state]; rfl
  have N := Fr.nil Z.heap.size
  show own_Done p.tables e below (own_R (QLV Z h0) s 1 1) s₁ (entryFrame m #[(.long p1)] 3)
  refine own_st (T' := s₁) (F' := (mkF m 0 #[.val (.long p1), .second, .unset] [])) (fun t k => castTop (by first | rfl | (simp [entryFrame, mkF, argsToLocals, Value.category]; done)) k) ?_
  have KP := Keep.refl h0 []
  refine own_st (T' := s₁) (F' := (mkF m 3 #[.val (.long p1), .second, .unset] [(.int (128 : Int32))])) (fun t k => XS.sipush X0.here hx rfl (hb hby d5_0) k) ?_
  refine own_st (T' := s₁) (F' := (mkF m 4 #[.val (.long p1), .second, .val (.int (128 : Int32))] [])) (fun t k => XS.istoreN X0.here hx rfl (hb hby d5_3) rfl (l' := #[.val (.long p1), .second, .val (.int (128 : Int32))]) rfl k) ?_
  refine own_st (T' := s₁) (F' := (mkF m 5 #[.val (.long p1), .second, .val (.int (128 : Int32))] [(.long p1)])) (fun t k => XS.lloadN X0.here hx rfl (hb hby d5_4) rfl k) ?_
  refine own_st (T' := s₁) (F' := (mkF m 8 #[.val (.long p1), .second, .val (.int (128 : Int32))] [(.long (-128 : Int64)), (.long p1)])) (fun t k => X0.ldc2Long hx hown (mvT hZ (hw _ (List.mem_of_getElem? (i := 35) rfl))) (g := (mkF m 5 #[.val (.long p1), .second, .val (.int (128 : Int32))] [(.long p1)])) rfl (hb hby d5_5) _ k) ?_
  refine own_st (T' := s₁) (F' := (mkF m 9 #[.val (.long p1), .second, .val (.int (128 : Int32))] [(.int (lcmpW p1 (-128 : Int64)))])) (fun t k => XS.lcmp X0.here hx rfl (hb hby d5_8) rfl k) ?_
  by_cases hc9_1 : (lcmpW p1 (-128 : Int64)) < (0 : Int32)
  · refine own_st (T' := s₁) (F' := (mkF m 31 #[.val (.long p1), .second, .val (.int (128 : Int32))] [])) (fun t k => XS.ifYes X0.here hx rfl (pc0 := 9) (pc' := 31) rfl (hb hby d5_9) rfl ((if0 _ _).trans (tlt hc9_1).1) (by decide) (by decide) k) ?_
    obtain ⟨T2, h2, X2, e2, E2, A2, D2, U2, st2⟩ := newO X0 hx hZ hown (hw _ (List.mem_of_getElem? (i := 36) rfl)) (hw _ (List.mem_of_getElem? (i := 37) rfl)) (hw _ (List.mem_of_getElem? (i := 33) rfl)) e0 (g := (mkF m 31 #[.val (.long p1), .second, .val (.int (128 : Int32))] [])) rfl (hb hby d5_31) (by decide) (by decide)
    obtain ⟨b2, g2⟩ : ∃ z, z = h0.size := ⟨_, rfl⟩
    rw [← g2] at A2 D2 U2 st2
    have g_b2 : Z.heap.size ≤ b2 := Nat.le_trans O.1 (Nat.le_of_eq g2.symm)
    have k_b2 : h0.size ≤ b2 := Nat.le_trans KP.1 (Nat.le_of_eq g2.symm)
    have O := own_ext_trans O E2
    have KP := KP.ext E2
    have E_b2 := A2
    have F_value_b2 : Fld Z h2 b2 "java/lang/Long" "value" "J" (.long (0 : Int64)) := D2 (Or.inr (hw _ (List.mem_of_getElem? (i := 50) rfl))) (ty := .long) (by decide)
    refine own_st (T' := T2) (F' := (mkF m 34 #[.val (.long p1), .second, .val (.int (128 : Int32))] [(.ref b2)])) st2 ?_
    refine own_st (T' := T2) (F' := (mkF m 35 #[.val (.long p1), .second, .val (.int (128 : Int32))] [(.ref b2), (.ref b2)])) (fun t k => XS.dup X2.here hx rfl (hb hby d5_34) rfl rfl k) ?_
    refine own_st (T' := T2) (F' := (mkF m 36 #[.val (.long p1), .second, .val (.int (128 : Int32))] [(.long p1), (.ref b2), (.ref b2)])) (fun t k => XS.lloadN X2.here hx rfl (hb hby d5_35) rfl k) ?_
    obtain ⟨v3, _, ⟨T3, L3, k3, n3⟩, -, X3, ⟨Lc3, hQ3, l3, y3, z3⟩, st3⟩ := X2.specialBack hx (y := (⟨"java/lang/Long", "<init>", "(J)V"⟩ : MethodName)) rfl hown (mvT hZ (hw _ (List.mem_of_getElem? (i := 38) rfl))) (mvT hZ (hw _ (List.mem_of_getElem? (i := 39) rfl))) (mvT hZ (hw _ (List.mem_of_getElem? (i := 41) rfl))) (by decide) (backOf (W := 1) (rm6 l Z a0 CX [] b2 p1 (0 : Int64) h2 O E_b2 g_b2 F_value_b2) hZ (hw _ (List.mem_of_getElem? (i := 41) rfl)) (hw _ (List.mem_of_getElem? (i := 33) rfl)) (by decide) (by decide)) (g := (mkF m 36 #[.val (.long p1), .second, .val (.int (128 : Int32))] [(.long p1), (.ref b2), (.ref b2)])) rfl (by rw [hml]; rfl) (Steps.refl _) (a := b2) (argsL := [(.long p1)]) (rest := [(.ref b2)]) (lenOf pd_1 rfl) rfl (by show 2 * 0 + _ ≤ _; exact Nat.le_of_eq rfl) (hb hby d5_36) (fun _ _ => ⟨rfl, e2, (by decide : 1 + 0 ≤ _), (by decide : 1 + 0 ≤ _)⟩)
    dsimp only [Pt.U, Pt.locs, Pt.cells, Pt.slots] at X3 l3 y3 z3 st3 hQ3
    subst l3 y3 z3
    obtain ⟨rfl, N3q, K3, F_value_b2⟩ := hQ3
    have N := Fr.app N N3q
    have E_b2 := E_b2.keep K3
    have O := own_O_keep O K3 (allS g_b2 all0)
    have KP := KP.trans K3 (allS (Or.inr k_b2) all0)
    refine own_tr (T' := T3) (F' := (mkF m 39 #[.val (.long p1), .second, .val (.int (128 : Int32))] [(.ref b2)])) st3 ?_
    exact own_retA X3 hx (t := (.object "java/lang/Long")) Bd.returns rfl rfl (hb hby d5_39) hlk (⟨_, rfl, N, own_ext_keep KP, E_b2⟩) (by decide) (by decide)
  · refine own_st (T' := s₁) (F' := (mkF m 12 #[.val (.long p1), .second, .val (.int (128 : Int32))] [])) (fun t k => XS.ifNo X0.here hx rfl (hb hby d5_9) rfl ((if0 _ _).trans (flt hc9_1).1) k) ?_
    refine own_st (T' := s₁) (F' := (mkF m 13 #[.val (.long p1), .second, .val (.int (128 : Int32))] [(.long p1)])) (fun t k => XS.lloadN X0.here hx rfl (hb hby d5_12) rfl k) ?_
    refine own_st (T' := s₁) (F' := (mkF m 16 #[.val (.long p1), .second, .val (.int (128 : Int32))] [(.long (127 : Int64)), (.long p1)])) (fun t k => X0.ldc2Long hx hown (mvT hZ (hw _ (List.mem_of_getElem? (i := 53) rfl))) (g := (mkF m 13 #[.val (.long p1), .second, .val (.int (128 : Int32))] [(.long p1)])) rfl (hb hby d5_13) _ k) ?_
    refine own_st (T' := s₁) (F' := (mkF m 17 #[.val (.long p1), .second, .val (.int (128 : Int32))] [(.int (lcmpW p1 (127 : Int64)))])) (fun t k => XS.lcmp X0.here hx rfl (hb hby d5_16) rfl k) ?_
    by_cases hc17_4 : (0 : Int32) < (lcmpW p1 (127 : Int64))
    · refine own_st (T' := s₁) (F' := (mkF m 31 #[.val (.long p1), .second, .val (.int (128 : Int32))] [])) (fun t k => XS.ifYes X0.here hx rfl (pc0 := 17) (pc' := 31) rfl (hb hby d5_17) rfl ((if0 _ _).trans (tlt hc17_4).2.2.1) (by decide) (by decide) k) ?_
      obtain ⟨T5, h5, X5, e5, E5, A5, D5, U5, st5⟩ := newO X0 hx hZ hown (hw _ (List.mem_of_getElem? (i := 36) rfl)) (hw _ (List.mem_of_getElem? (i := 37) rfl)) (hw _ (List.mem_of_getElem? (i := 33) rfl)) e0 (g := (mkF m 31 #[.val (.long p1), .second, .val (.int (128 : Int32))] [])) rfl (hb hby d5_31) (by decide) (by decide)
      obtain ⟨b5, g5⟩ : ∃ z, z = h0.size := ⟨_, rfl⟩
      rw [← g5] at A5 D5 U5 st5
      have g_b5 : Z.heap.size ≤ b5 := Nat.le_trans O.1 (Nat.le_of_eq g5.symm)
      have k_b5 : h0.size ≤ b5 := Nat.le_trans KP.1 (Nat.le_of_eq g5.symm)
      have O := own_ext_trans O E5
      have KP := KP.ext E5
      have E_b5 := A5
      have F_value_b5 : Fld Z h5 b5 "java/lang/Long" "value" "J" (.long (0 : Int64)) := D5 (Or.inr (hw _ (List.mem_of_getElem? (i := 50) rfl))) (ty := .long) (by decide)
      refine own_st (T' := T5) (F' := (mkF m 34 #[.val (.long p1), .second, .val (.int (128 : Int32))] [(.ref b5)])) st5 ?_
      refine own_st (T' := T5) (F' := (mkF m 35 #[.val (.long p1), .second, .val (.int (128 : Int32))] [(.ref b5), (.ref b5)])) (fun t k => XS.dup X5.here hx rfl (hb hby d5_34) rfl rfl k) ?_
      refine own_st (T' := T5) (F' := (mkF m 36 #[.val (.long p1), .second, .val (.int (128 : Int32))] [(.long p1), (.ref b5), (.ref b5)])) (fun t k => XS.lloadN X5.here hx rfl (hb hby d5_35) rfl k) ?_
      obtain ⟨v6, _, ⟨T6, L6, k6, n6⟩, -, X6, ⟨Lc6, hQ6, l6, y6, z6⟩, st6⟩ := X5.specialBack hx (y := (⟨"java/lang/Long", "<init>", "(J)V"⟩ : MethodName)) rfl hown (mvT hZ (hw _ (List.mem_of_getElem? (i := 38) rfl))) (mvT hZ (hw _ (List.mem_of_getElem? (i := 39) rfl))) (mvT hZ (hw _ (List.mem_of_getElem? (i := 41) rfl))) (by decide) (backOf (W := 1) (rm6 l Z a0 CX [] b5 p1 (0 : Int64) h5 O E_b5 g_b5 F_value_b5) hZ (hw _ (List.mem_of_getElem? (i := 41) rfl)) (hw _ (List.mem_of_getElem? (i := 33) rfl)) (by decide) (by decide)) (g := (mkF m 36 #[.val (.long p1), .second, .val (.int (128 : Int32))] [(.long p1), (.ref b5), (.ref b5)])) rfl (by rw [hml]; rfl) (Steps.refl _) (a := b5) (argsL := [(.long p1)]) (rest := [(.ref b5)]) (lenOf pd_1 rfl) rfl (by show 2 * 0 + _ ≤ _; exact Nat.le_of_eq rfl) (hb hby d5_36) (fun _ _ => ⟨rfl, e5, (by decide : 1 + 0 ≤ _), (by decide : 1 + 0 ≤ _)⟩)
      dsimp only [Pt.U, Pt.locs, Pt.cells, Pt.slots] at X6 l6 y6 z6 st6 hQ6
      subst l6 y6 z6
      obtain ⟨rfl, N6q, K6, F_value_b5⟩ := hQ6
      have N := Fr.app N N6q
      have E_b5 := E_b5.keep K6
      have O := own_O_keep O K6 (allS g_b5 all0)
      have KP := KP.trans K6 (allS (Or.inr k_b5) all0)
      refine own_tr (T' := T6) (F' := (mkF m 39 #[.val (.long p1), .second, .val (.int (128 : Int32))] [(.ref b5)])) st6 ?_
      exact own_retA X6 hx (t := (.object "java/lang/Long")) Bd.returns rfl rfl (hb hby d5_39) hlk (⟨_, rfl, N, own_ext_keep KP, E_b5⟩) (by decide) (by decide)
    · refine own_st (T' := s₁) (F' := (mkF m 20 #[.val (.long p1), .second, .val (.int (128 : Int32))] [])) (fun t k => XS.ifNo X0.here hx rfl (hb hby d5_17) rfl ((if0 _ _).trans (flt hc17_4).2.2.1) k) ?_
      obtain ⟨T7, X7, e7, st7⟩ := getS2 X0 hx hZ hown (host := "") (Or.inl (hw _ (List.mem_of_getElem? (i := 54) rfl))) Via.refl e0 (S_lc.ext O) (g := (mkF m 20 #[.val (.long p1), .second, .val (.int (128 : Int32))] [])) rfl (hb hby d5_20)
      refine own_st (T' := T7) (F' := (mkF m 23 #[.val (.long p1), .second, .val (.int (128 : Int32))] [(.ref w_lc)])) st7 ?_
      refine own_st (T' := T7) (F' := (mkF m 24 #[.val (.long p1), .second, .val (.int (128 : Int32))] [(.long p1), (.ref w_lc)])) (fun t k => XS.lloadN X7.here hx rfl (hb hby d5_23) rfl k) ?_
      refine own_st (T' := T7) (F' := (mkF m 25 #[.val (.long p1), .second, .val (.int (128 : Int32))] [(.int (p1.toInt32)), (.ref w_lc)])) (fun t k => XS.l2i X7.here hx rfl (hb hby d5_24) rfl k) ?_
      refine own_st (T' := T7) (F' := (mkF m 28 #[.val (.long p1), .second, .val (.int (128 : Int32))] [(.int (128 : Int32)), (.int (p1.toInt32)), (.ref w_lc)])) (fun t k => XS.sipush X7.here hx rfl (hb hby d5_25) k) ?_
      refine own_st (T' := T7) (F' := (mkF m 29 #[.val (.long p1), .second, .val (.int (128 : Int32))] [(.int ((p1.toInt32) + (128 : Int32))), (.ref w_lc)])) (fun t k => XS.iadd X7.here hx rfl (hb hby d5_28) rfl k) ?_
      have hin8 : ¬ (((p1.toInt32) + (128 : Int32)) < 0 ∨ cl_lc.slots.size ≤ (((p1.toInt32) + (128 : Int32))).toNatClampNeg) := inb_of B_lc.2.1 (own_lidx _ hc9_1 hc17_4)
      obtain ⟨r8, hat8, Er8, Fr8⟩ := B_lc.2.2.2 _ hin8
      refine own_st (T' := T7) (F' := (mkF m 30 #[.val (.long p1), .second, .val (.int (128 : Int32))] [(.ref r8)])) (fun t k => X7.aaload hx (j := ((p1.toInt32) + (128 : Int32))) (v := (.ref r8)) (by rw [e7]; exact (B_lc.1.ext O).1) (State.isArrayOf_alike hZ.alike B_lc.1.2.1) rfl B_lc.1.2.2 hin8 hat8 (g := (mkF m 29 #[.val (.long p1), .second, .val (.int (128 : Int32))] [(.int ((p1.toInt32) + (128 : Int32))), (.ref w_lc)])) rfl rfl (hb hby d5_29) _ k) ?_
      exact own_retA X7 hx (t := (.object "java/lang/Long")) Bd.returns rfl rfl (hb hby d5_30) hlk (by show QLV Z h0 _ T7.heap _; rw [e7]; exact ⟨_, rfl, N, own_ext_keep KP, (Er8.ext O)⟩) (by decide) (by decide)
theorem d4_0 : decode prog_160_method_2_code 0 = .ok (.aload_n 1, 1) := by decide +kernel
theorem d4_1 : decode prog_160_method_2_code 1 = .ok (.instanceof 8, 3) := by decide +kernel
theorem d4_4 : decode prog_160_method_2_code 4 = .ok (.ifCond .eq 24, 3) := by decide +kernel
theorem d4_7 : decode prog_160_method_2_code 7 = .ok (.aload_n 1, 1) := by decide +kernel
theorem d4_8 : decode prog_160_method_2_code 8 = .ok (.checkcast 8, 3) := by decide +kernel
theorem d4_11 : decode prog_160_method_2_code 11 = .ok (.astore_n 2, 1) := by decide +kernel
theorem d4_12 : decode prog_160_method_2_code 12 = .ok (.aload_n 0, 1) := by decide +kernel
theorem d4_13 : decode prog_160_method_2_code 13 = .ok (.getfield 7, 3) := by decide +kernel
theorem d4_16 : decode prog_160_method_2_code 16 = .ok (.aload_n 2, 1) := by decide +kernel
theorem d4_17 : decode prog_160_method_2_code 17 = .ok (.getfield 7, 3) := by decide +kernel
theorem d4_20 : decode prog_160_method_2_code 20 = .ok (.lcmp, 1) := by decide +kernel
theorem d4_21 : decode prog_160_method_2_code 21 = .ok (.ifCond .ne 7, 3) := by decide +kernel
theorem d4_24 : decode prog_160_method_2_code 24 = .ok (.iconst 1, 1) := by decide +kernel
theorem d4_25 : decode prog_160_method_2_code 25 = .ok (.goto 4, 3) := by decide +kernel
theorem d4_28 : decode prog_160_method_2_code 28 = .ok (.iconst 0, 1) := by decide +kernel
theorem d4_29 : decode prog_160_method_2_code 29 = .ok (.ireturn, 1) := by decide +kernel
set_option maxRecDepth 65536 in
set_option maxHeartbeats 40000000 in
theorem rmE_N (l : Launch) (Z : State) (a0 : Array Value) {w_FALSE : Addr} {w_TRUE : Addr} {w_lc : Addr} {cl_lc : Cell} (CX : Ctx Z a0 w_FALSE w_TRUE w_lc cl_lc) (ws : List Jvm.Cond) (a1 : Addr) (h0 : Heap) (O : Ext Z.heap h0)  :
    MetFree l (⟨"com/example/sundew/sundew/value/IntegerValue", "equals", "(Ljava/lang/Object;)Z"⟩ : MethodName) (head1 (Jvm.Cond.code (⟨"com/example/sundew/sundew/value/IntegerValue", "equals", "(Ljava/lang/Object;)Z"⟩ : MethodName) prog_160_method_2_code 3 (some .boolean) :: ws) ({ frames := 0, cells := 0, slots := 0, locals := 0 } : Room)) (fun a U => a = #[(.ref a1), .null] ∧ Z.Warmed39 U.vm ∧ U.heap = h0) (fun _ _ _ _ _ => True) (fun _ U o U' => ∃ v L, o = .returned v ∧ QP Z (.int (0 : Int32)) h0 v U'.heap L ∧ FrameEnd U o U' L ({ frames := 0, cells := 0, slots := 0, locals := 0 } : Room).cells ({ frames := 0, cells := 0, slots := 0, locals := 0 } : Room).slots) := by
  refine MetFree.of_bodySF (plainFor_of_name pn_2) hisR ?_
  intro p e s m args below meth c s₁ Bd hml0 hP hK
  obtain ⟨rfl, hZ, hh⟩ := hP
  have CX0 := CX
  obtain ⟨hw, S_FALSE, E_FALSE, S_TRUE, E_TRUE, S_lc, B_lc, -⟩ := CX0
  have hx := Bd.exec
  have hby := Bd.bytes
  have hml : c.maxLocals = 3 := hml0
  have hown : s.vm.findClass "com/example/sundew/sundew/value/IntegerValue" = some m.cls := findClass_of_methodNamed Bd.named
  have hnm := (name_of_methodNamed Bd.named Bd.method).1
  have hlk : meth.locks = false := BodyLoose.notSynchronized Bd
  have X0 : Stand p l e ({ frames := 0, cells := 0, slots := 0, locals := 0 } : Room) s m #[(.ref a1), .null] below meth c s₁ [] 0 0 := Stand.of_body Bd
  have e0 : s₁.heap = h0 := by rw [← hh, Bd.state]; rfl
  have N := Fr.nil Z.heap.size
  show own_Done p.tables e below (own_R (QP Z (.int (0 : Int32)) h0) s 0 0) s₁ (entryFrame m #[(.ref a1), .null] 3)
  refine own_st (T' := s₁) (F' := (mkF m 0 #[.val (.ref a1), .val .null, .unset] [])) (fun t k => castTop (by first | rfl | (simp [entryFrame, mkF, argsToLocals, Value.category]; done)) k) ?_
  refine own_st (T' := s₁) (F' := (mkF m 1 #[.val (.ref a1), .val .null, .unset] [.null])) (fun t k => XS.aloadN X0.here hx rfl (hb hby d4_0) rfl rfl k) ?_
  refine own_st (T' := s₁) (F' := (mkF m 4 #[.val (.ref a1), .val .null, .unset] [(.int (0 : Int32))])) (fun t k => X0.instanceofNull hx (g := (mkF m 1 #[.val (.ref a1), .val .null, .unset] [.null])) rfl rfl (hb hby d4_1) _ k) ?_
  refine own_st (T' := s₁) (F' := (mkF m 28 #[.val (.ref a1), .val .null, .unset] [])) (fun t k => XS.ifYes X0.here hx rfl (pc0 := 4) (pc' := 28) rfl (hb hby d4_4) rfl ((if0 _ _).trans (teq rfl).1) (by decide) (by decide) k) ?_
  refine own_st (T' := s₁) (F' := (mkF m 29 #[.val (.ref a1), .val .null, .unset] [(.int (0 : Int32))])) (fun t k => XS.iconst X0.here hx rfl (hb hby d4_28) k) ?_
  exact own_retN X0 hx (t := .boolean) Bd.returns (by simp) (by decide) (hb hby d4_29) hlk (by show QP Z (.int (0 : Int32)) h0 _ s₁.heap _; rw [e0]; exact ⟨rfl, N, rfl⟩) (by decide) (by decide)
set_option maxRecDepth 65536 in
set_option maxHeartbeats 40000000 in
theorem rmE_L (l : Launch) (Z : State) (a0 : Array Value) {w_FALSE : Addr} {w_TRUE : Addr} {w_lc : Addr} {cl_lc : Cell} (CX : Ctx Z a0 w_FALSE w_TRUE w_lc cl_lc) (ws : List Jvm.Cond) (a1 a2 : Addr) (h0 : Heap) (O : Ext Z.heap h0) (E2 : Exa Z h0 a2 "java/lang/Long") :
    MetFree l (⟨"com/example/sundew/sundew/value/IntegerValue", "equals", "(Ljava/lang/Object;)Z"⟩ : MethodName) (head1 (Jvm.Cond.code (⟨"com/example/sundew/sundew/value/IntegerValue", "equals", "(Ljava/lang/Object;)Z"⟩ : MethodName) prog_160_method_2_code 3 (some .boolean) :: ws) ({ frames := 0, cells := 0, slots := 0, locals := 0 } : Room)) (fun a U => a = #[(.ref a1), (.ref a2)] ∧ Z.Warmed39 U.vm ∧ U.heap = h0) (fun _ _ _ _ _ => True) (fun _ U o U' => ∃ v L, o = .returned v ∧ QP Z (.int (0 : Int32)) h0 v U'.heap L ∧ FrameEnd U o U' L ({ frames := 0, cells := 0, slots := 0, locals := 0 } : Room).cells ({ frames := 0, cells := 0, slots := 0, locals := 0 } : Room).slots) := by
  refine MetFree.of_bodySF (plainFor_of_name pn_2) hisR ?_
  intro p e s m args below meth c s₁ Bd hml0 hP hK
  obtain ⟨rfl, hZ, hh⟩ := hP
  have CX0 := CX
  obtain ⟨hw, S_FALSE, E_FALSE, S_TRUE, E_TRUE, S_lc, B_lc, -⟩ := CX0
  have hx := Bd.exec
  have hby := Bd.bytes
  have hml : c.maxLocals = 3 := hml0
  have hown : s.vm.findClass "com/example/sundew/sundew/value/IntegerValue" = some m.cls := findClass_of_methodNamed Bd.named
  have hnm := (name_of_methodNamed Bd.named Bd.method).1
  have hlk : meth.locks = false := BodyLoose.notSynchronized Bd
  have X0 : Stand p l e ({ frames := 0, cells := 0, slots := 0, locals := 0 } : Room) s m #[(.ref a1), (.ref a2)] below meth c s₁ [] 0 0 := Stand.of_body Bd
  have e0 : s₁.heap = h0 := by rw [← hh, Bd.state]; rfl
  have N := Fr.nil Z.heap.size
  show own_Done p.tables e below (own_R (QP Z (.int (0 : Int32)) h0) s 0 0) s₁ (entryFrame m #[(.ref a1), (.ref a2)] 3)
  refine own_st (T' := s₁) (F' := (mkF m 0 #[.val (.ref a1), .val (.ref a2), .unset] [])) (fun t k => castTop (by first | rfl | (simp [entryFrame, mkF, argsToLocals, Value.category]; done)) k) ?_
  refine own_st (T' := s₁) (F' := (mkF m 1 #[.val (.ref a1), .val (.ref a2), .unset] [(.ref a2)])) (fun t k => XS.aloadN X0.here hx rfl (hb hby d4_0) rfl rfl k) ?_
  obtain ⟨T1, X1, e1, st1⟩ := instNo X0 hx hZ hown (hw _ (List.mem_of_getElem? (i := 21) rfl)) e0 E2 (own_ns_no (hw _ (List.mem_of_getElem? (i := 51) rfl)) (hw _ (List.mem_of_getElem? (i := 1) rfl)) (NS.step (hw _ (List.mem_of_getElem? (i := 51) rfl)) (NS.step (hw _ (List.mem_of_getElem? (i := 52) rfl)) (own_ns_root (hw _ (List.mem_of_getElem? (i := 28) rfl)) (hw _ (List.mem_of_getElem? (i := 1) rfl)) (by decide)) (by decide)) (by decide)) (by decide)) (g := (mkF m 1 #[.val (.ref a1), .val (.ref a2), .unset] [(.ref a2)])) rfl rfl (hb hby d4_1)
  refine own_st (T' := T1) (F' := (mkF m 4 #[.val (.ref a1), .val (.ref a2), .unset] [(.int (0 : Int32))])) st1 ?_
  refine own_st (T' := T1) (F' := (mkF m 28 #[.val (.ref a1), .val (.ref a2), .unset] [])) (fun t k => XS.ifYes X1.here hx rfl (pc0 := 4) (pc' := 28) rfl (hb hby d4_4) rfl ((if0 _ _).trans (teq rfl).1) (by decide) (by decide) k) ?_
  refine own_st (T' := T1) (F' := (mkF m 29 #[.val (.ref a1), .val (.ref a2), .unset] [(.int (0 : Int32))])) (fun t k => XS.iconst X1.here hx rfl (hb hby d4_28) k) ?_
  exact own_retN X1 hx (t := .boolean) Bd.returns (by simp) (by decide) (hb hby d4_29) hlk (by show QP Z (.int (0 : Int32)) h0 _ T1.heap _; rw [e1]; exact ⟨rfl, N, rfl⟩) (by decide) (by decide)
set_option maxRecDepth 65536 in
set_option maxHeartbeats 40000000 in
theorem rmE_B (l : Launch) (Z : State) (a0 : Array Value) {w_FALSE : Addr} {w_TRUE : Addr} {w_lc : Addr} {cl_lc : Cell} (CX : Ctx Z a0 w_FALSE w_TRUE w_lc cl_lc) (ws : List Jvm.Cond) (a1 a2 : Addr) (h0 : Heap) (O : Ext Z.heap h0) (E2 : Exa Z h0 a2 "com/example/sundew/sundew/value/BooleanValue") :
    MetFree l (⟨"com/example/sundew/sundew/value/IntegerValue", "equals", "(Ljava/lang/Object;)Z"⟩ : MethodName) (head1 (Jvm.Cond.code (⟨"com/example/sundew/sundew/value/IntegerValue", "equals", "(Ljava/lang/Object;)Z"⟩ : MethodName) prog_160_method_2_code 3 (some .boolean) :: ws) ({ frames := 0, cells := 0, slots := 0, locals := 0 } : Room)) (fun a U => a = #[(.ref a1), (.ref a2)] ∧ Z.Warmed39 U.vm ∧ U.heap = h0) (fun _ _ _ _ _ => True) (fun _ U o U' => ∃ v L, o = .returned v ∧ QP Z (.int (0 : Int32)) h0 v U'.heap L ∧ FrameEnd U o U' L ({ frames := 0, cells := 0, slots := 0, locals := 0 } : Room).cells ({ frames := 0, cells := 0, slots := 0, locals := 0 } : Room).slots) := by
  refine MetFree.of_bodySF (plainFor_of_name pn_2) hisR ?_
  intro p e s m args below meth c s₁ Bd hml0 hP hK
  obtain ⟨rfl, hZ, hh⟩ := hP
  have CX0 := CX
  obtain ⟨hw, S_FALSE, E_FALSE, S_TRUE, E_TRUE, S_lc, B_lc, -⟩ := CX0
  have hx := Bd.exec
  have hby := Bd.bytes
  have hml : c.maxLocals = 3 := hml0
  have hown : s.vm.findClass "com/example/sundew/sundew/value/IntegerValue" = some m.cls := findClass_of_methodNamed Bd.named
  have hnm := (name_of_methodNamed Bd.named Bd.method).1
  have hlk : meth.locks = false := BodyLoose.notSynchronized Bd
  have X0 : Stand p l e ({ frames := 0, cells := 0, slots := 0, locals := 0 } : Room) s m #[(.ref a1), (.ref a2)] below meth c s₁ [] 0 0 := Stand.of_body Bd
  have e0 : s₁.heap = h0 := by rw [← hh, Bd.state]; rfl
  have N := Fr.nil Z.heap.size
  show own_Done p.tables e below (own_R (QP Z (.int (0 : Int32)) h0) s 0 0) s₁ (entryFrame m #[(.ref a1), (.ref a2)] 3)
  refine own_st (T' := s₁) (F' := (mkF m 0 #[.val (.ref a1), .val (.ref a2), .unset] [])) (fun t k => castTop (by first | rfl | (simp [entryFrame, mkF, argsToLocals, Value.category]; done)) k) ?_
  refine own_st (T' := s₁) (F' := (mkF m 1 #[.val (.ref a1), .val (.ref a2), .unset] [(.ref a2)])) (fun t k => XS.aloadN X0.here hx rfl (hb hby d4_0) rfl rfl k) ?_
  obtain ⟨T1, X1, e1, st1⟩ := instNo X0 hx hZ hown (hw _ (List.mem_of_getElem? (i := 21) rfl)) e0 E2 (own_ns_no (hw _ (List.mem_of_getElem? (i := 26) rfl)) (hw _ (List.mem_of_getElem? (i := 1) rfl)) (NS.step (hw _ (List.mem_of_getElem? (i := 26) rfl)) (NS.step (hw _ (List.mem_of_getElem? (i := 27) rfl)) (own_ns_root (hw _ (List.mem_of_getElem? (i := 28) rfl)) (hw _ (List.mem_of_getElem? (i := 1) rfl)) (by decide)) (by decide)) (by decide)) (by decide)) (g := (mkF m 1 #[.val (.ref a1), .val (.ref a2), .unset] [(.ref a2)])) rfl rfl (hb hby d4_1)
  refine own_st (T' := T1) (F' := (mkF m 4 #[.val (.ref a1), .val (.ref a2), .unset] [(.int (0 : Int32))])) st1 ?_
  refine own_st (T' := T1) (F' := (mkF m 28 #[.val (.ref a1), .val (.ref a2), .unset] [])) (fun t k => XS.ifYes X1.here hx rfl (pc0 := 4) (pc' := 28) rfl (hb hby d4_4) rfl ((if0 _ _).trans (teq rfl).1) (by decide) (by decide) k) ?_
  refine own_st (T' := T1) (F' := (mkF m 29 #[.val (.ref a1), .val (.ref a2), .unset] [(.int (0 : Int32))])) (fun t k => XS.iconst X1.here hx rfl (hb hby d4_28) k) ?_
  exact own_retN X1 hx (t := .boolean) Bd.returns (by simp) (by decide) (hb hby d4_29) hlk (by show QP Z (.int (0 : Int32)) h0 _ T1.heap _; rw [e1]; exact ⟨rfl, N, rfl⟩) (by decide) (by decide)
set_option maxRecDepth 65536 in
set_option maxHeartbeats 40000000 in
theorem rmE_S (l : Launch) (Z : State) (a0 : Array Value) {w_FALSE : Addr} {w_TRUE : Addr} {w_lc : Addr} {cl_lc : Cell} (CX : Ctx Z a0 w_FALSE w_TRUE w_lc cl_lc) (ws : List Jvm.Cond) (a1 a2 : Addr) (q1 q2 : Int64) (r : Int32) (h0 : Heap) (O : Ext Z.heap h0) (E2 : Exa Z h0 a2 "com/example/sundew/sundew/value/IntegerValue") (F1 : Fld Z h0 a1 "com/example/sundew/sundew/value/IntegerValue" "value" "J" (.long q1)) (F2 : Fld Z h0 a2 "com/example/sundew/sundew/value/IntegerValue" "value" "J" (.long q2)) (hr : r = if q1 = q2 then 1 else 0) :
    MetFree l (⟨"com/example/sundew/sundew/value/IntegerValue", "equals", "(Ljava/lang/Object;)Z"⟩ : MethodName) (head1 (Jvm.Cond.code (⟨"com/example/sundew/sundew/value/IntegerValue", "equals", "(Ljava/lang/Object;)Z"⟩ : MethodName) prog_160_method_2_code 3 (some .boolean) :: ws) ({ frames := 0, cells := 0, slots := 0, locals := 0 } : Room)) (fun a U => a = #[(.ref a1), (.ref a2)] ∧ Z.Warmed39 U.vm ∧ U.heap = h0) (fun _ _ _ _ _ => True) (fun _ U o U' => ∃ v L, o = .returned v ∧ QP Z (.int r) h0 v U'.heap L ∧ FrameEnd U o U' L ({ frames := 0, cells := 0, slots := 0, locals := 0 } : Room).cells ({ frames := 0, cells := 0, slots := 0, locals := 0 } : Room).slots) := by
  refine MetFree.of_bodySF (plainFor_of_name pn_2) hisR ?_
  intro p e s m args below meth c s₁ Bd hml0 hP hK
  obtain ⟨rfl, hZ, hh⟩ := hP
  have CX0 := CX
  obtain ⟨hw, S_FALSE, E_FALSE, S_TRUE, E_TRUE, S_lc, B_lc, -⟩ := CX0
  have hx := Bd.exec
  have hby := Bd.bytes
  have hml : c.maxLocals = 3 := hml0
  have hown : s.vm.findClass "com/example/sundew/sundew/value/IntegerValue" = some m.cls := findClass_of_methodNamed Bd.named
  have hnm := (name_of_methodNamed Bd.named Bd.method).1
  have hlk : meth.locks = false := BodyLoose.notSynchronized Bd
  have X0 : Stand p l e ({ frames := 0, cells := 0, slots := 0, locals := 0 } : Room) s m #[(.ref a1), (.ref a2)] below meth c s₁ [] 0 0 := Stand.of_body Bd
  have e0 : s₁.heap = h0 := by rw [← hh, Bd.state]; rfl
  have N := Fr.nil Z.heap.size
  show own_Done p.tables e below (own_R (QP Z (.int r) h0) s 0 0) s₁ (entryFrame m #[(.ref a1), (.ref a2)] 3)
  refine own_st (T' := s₁) (F' := (mkF m 0 #[.val (.ref a1), .val (.ref a2), .unset] [])) (fun t k => castTop (by first | rfl | (simp [entryFrame, mkF, argsToLocals, Value.category]; done)) k) ?_
  refine own_st (T' := s₁) (F' := (mkF m 1 #[.val (.ref a1), .val (.ref a2), .unset] [(.ref a2)])) (fun t k => XS.aloadN X0.here hx rfl (hb hby d4_0) rfl rfl k) ?_
  obtain ⟨T1, X1, e1, st1⟩ := instY X0 hx hZ hown (hw _ (List.mem_of_getElem? (i := 21) rfl)) e0 (Ins.self E2) (g := (mkF m 1 #[.val (.ref a1), .val (.ref a2), .unset] [(.ref a2)])) rfl rfl (hb hby d4_1)
  refine own_st (T' := T1) (F' := (mkF m 4 #[.val (.ref a1), .val (.ref a2), .unset] [(.int (1 : Int32))])) st1 ?_
  refine own_st (T' := T1) (F' := (mkF m 7 #[.val (.ref a1), .val (.ref a2), .unset] [])) (fun t k => XS.ifNo X1.here hx rfl (hb hby d4_4) rfl ((if0 _ _).trans (feq (by decide : ¬ ((1 : Int32) = (0 : Int32)))).1) k) ?_
  refine own_st (T' := T1) (F' := (mkF m 8 #[.val (.ref a1), .val (.ref a2), .unset] [(.ref a2)])) (fun t k => XS.aloadN X1.here hx rfl (hb hby d4_7) rfl rfl k) ?_
  obtain ⟨T2, X2, e2, st2⟩ := castY X1 hx hZ hown (hw _ (List.mem_of_getElem? (i := 21) rfl)) e1 (Ins.self E2) (g := (mkF m 8 #[.val (.ref a1), .val (.ref a2), .unset] [(.ref a2)])) rfl rfl (hb hby d4_8)
  refine own_st (T' := T2) (F' := (mkF m 11 #[.val (.ref a1), .val (.ref a2), .unset] [(.ref a2)])) st2 ?_
  refine own_st (T' := T2) (F' := (mkF m 12 #[.val (.ref a1), .val (.ref a2), .val (.ref a2)] [])) (fun t k => XS.astoreN X2.here hx rfl (hb hby d4_11) rfl rfl (l' := #[.val (.ref a1), .val (.ref a2), .val (.ref a2)]) rfl k) ?_
  refine own_st (T' := T2) (F' := (mkF m 13 #[.val (.ref a1), .val (.ref a2), .val (.ref a2)] [(.ref a1)])) (fun t k => XS.aloadN X2.here hx rfl (hb hby d4_12) rfl rfl k) ?_
  obtain ⟨T3, X3, e3, st3⟩ := getF X2 hx hZ hown (host := "") (Or.inl (hw _ (List.mem_of_getElem? (i := 14) rfl))) Via.refl e2 F1 (g := (mkF m 13 #[.val (.ref a1), .val (.ref a2), .val (.ref a2)] [(.ref a1)])) rfl rfl (hb hby d4_13)
  refine own_st (T' := T3) (F' := (mkF m 16 #[.val (.ref a1), .val (.ref a2), .val (.ref a2)] [(.long q1)])) st3 ?_
  refine own_st (T' := T3) (F' := (mkF m 17 #[.val (.ref a1), .val (.ref a2), .val (.ref a2)] [(.ref a2), (.long q1)])) (fun t k => XS.aloadN X3.here hx rfl (hb hby d4_16) rfl rfl k) ?_
  obtain ⟨T4, X4, e4, st4⟩ := getF X3 hx hZ hown (host := "") (Or.inl (hw _ (List.mem_of_getElem? (i := 14) rfl))) Via.refl e3 F2 (g := (mkF m 17 #[.val (.ref a1), .val (.ref a2), .val (.ref a2)] [(.ref a2), (.long q1)])) rfl rfl (hb hby d4_17)
  refine own_st (T' := T4) (F' := (mkF m 20 #[.val (.ref a1), .val (.ref a2), .val (.ref a2)] [(.long q2), (.long q1)])) st4 ?_
  refine own_st (T' := T4) (F' := (mkF m 21 #[.val (.ref a1), .val (.ref a2), .val (.ref a2)] [(.int (lcmpW q1 q2))])) (fun t k => XS.lcmp X4.here hx rfl (hb hby d4_20) rfl k) ?_
  by_cases hc21_5 : (lcmpW q1 q2) = (0 : Int32)
  · refine own_st (T' := T4) (F' := (mkF m 24 #[.val (.ref a1), .val (.ref a2), .val (.ref a2)] [])) (fun t k => XS.ifNo X4.here hx rfl (hb hby d4_21) rfl ((if0 _ _).trans (teq hc21_5).2) k) ?_
    refine own_st (T' := T4) (F' := (mkF m 25 #[.val (.ref a1), .val (.ref a2), .val (.ref a2)] [(.int (1 : Int32))])) (fun t k => XS.iconst X4.here hx rfl (hb hby d4_24) k) ?_
    refine own_st (T' := T4) (F' := (mkF m 29 #[.val (.ref a1), .val (.ref a2), .val (.ref a2)] [(.int (1 : Int32))])) (fun t k => XS.goto X4.here hx rfl (pc0 := 25) (pc' := 29) rfl (hb hby d4_25) (by decide) (by decide) k) ?_
    exact own_retN X4 hx (t := .boolean) Bd.returns (by simp) (by decide) (hb hby d4_29) hlk (by show QP Z (.int r) h0 _ T4.heap _; rw [e4]; exact ⟨by rw [hr, if_pos ((lw_eq _ _).mp hc21_5)], N, rfl⟩) (by decide) (by decide)
  · refine own_st (T' := T4) (F' := (mkF m 28 #[.val (.ref a1), .val (.ref a2), .val (.ref a2)] [])) (fun t k => XS.ifYes X4.here hx rfl (pc0 := 21) (pc' := 28) rfl (hb hby d4_21) rfl ((if0 _ _).trans (feq hc21_5).2) (by decide) (by decide) k) ?_
    refine own_st (T' := T4) (F' := (mkF m 29 #[.val (.ref a1), .val (.ref a2), .val (.ref a2)] [(.int (0 : Int32))])) (fun t k => XS.iconst X4.here hx rfl (hb hby d4_28) k) ?_
    exact own_retN X4 hx (t := .boolean) Bd.returns (by simp) (by decide) (hb hby d4_29) hlk (by show QP Z (.int r) h0 _ T4.heap _; rw [e4]; exact ⟨by rw [hr, if_neg (fun q => hc21_5 ((lw_eq _ _).mpr q))], N, rfl⟩) (by decide) (by decide)
theorem pn_4 : plainName "com/example/sundew/sundew/value/IntegerValueEqualsPinLaw" = true := by first | (simp [plainName, overriddenIn]; done) | decide +kernel
theorem pd_2 : parseMethodDescriptor "(Ljava/lang/Object;)Z" = some ⟨[(.object "java/lang/Object")], some .boolean⟩ := by decide +kernel
theorem pd_3 : parseMethodDescriptor "(J)Ljava/lang/Long;" = some ⟨[.long], some (.object "java/lang/Long")⟩ := by decide +kernel
set_option maxRecDepth 65536 in
set_option maxHeartbeats 40000000 in
theorem rm0 (l : Launch) (Z : State) (a0 : Array Value) {w_FALSE : Addr} {w_TRUE : Addr} {w_lc : Addr} {cl_lc : Cell} (CX : Ctx Z a0 w_FALSE w_TRUE w_lc cl_lc) (ws : List Jvm.Cond) (x0 : Int64) (x1 : Int64) (x2 : Int32) (h0 : Heap) (O : Ext Z.heap h0)  :
    MetFree l x (head1 (Jvm.Cond.code x code maxLocals ret :: ws) room_1) (fun a U => a = #[(.long x0), (.long x1), (.int x2)] ∧ Z.Warmed39 U.vm ∧ U.heap = h0) (fun _ _ _ _ _ => True) (fun _ U o U' => ∃ v L, o = .returned v ∧ Q0 Z v U'.heap L ∧ FrameEnd U o U' L room_1.cells room_1.slots) := by
  refine MetFree.of_bodySF (plainFor_of_name pn_4) hisR ?_
  intro p e s m args below meth c s₁ Bd hml0 hP hK
  obtain ⟨rfl, hZ, hh⟩ := hP
  have CX0 := CX
  obtain ⟨hw, S_FALSE, E_FALSE, S_TRUE, E_TRUE, S_lc, B_lc, -⟩ := CX0
  have hx := Bd.exec
  have hby := Bd.bytes
  have hml : c.maxLocals = 12 := hml0
  have hown : s.vm.findClass "com/example/sundew/sundew/value/IntegerValueEqualsPinLaw" = some m.cls := findClass_of_methodNamed Bd.named
  have hnm := (name_of_methodNamed Bd.named Bd.method).1
  have hlk : meth.locks = false := BodyLoose.notSynchronized Bd
  have X0 : Stand p l e room_1 s m #[(.long x0), (.long x1), (.int x2)] below meth c s₁ [] 0 0 := Stand.of_body Bd
  have e0 : s₁.heap = h0 := by rw [← hh, Bd.state]; rfl
  have N := Fr.nil Z.heap.size
  show own_Done p.tables e below (own_R (Q0 Z) s 16 128) s₁ (entryFrame m #[(.long x0), (.long x1), (.int x2)] maxLocals)
  refine own_st (T' := s₁) (F' := (mkF m 0 #[.val (.long x0), .second, .val (.long x1), .second, .val (.int x2), .unset, .unset, .unset, .unset, .unset, .unset, .unset] [])) (fun t k => castTop (by first | rfl | (simp [entryFrame, mkF, argsToLocals, Value.category, maxLocals]; done)) k) ?_
  obtain ⟨T1, h1, X1, e1, E1, A1, D1, U1, st1⟩ := newO X0 hx hZ hown (hw _ (List.mem_of_getElem? (i := 0) rfl)) (hw _ (List.mem_of_getElem? (i := 1) rfl)) (hw _ (List.mem_of_getElem? (i := 2) rfl)) e0 (g := (mkF m 0 #[.val (.long x0), .second, .val (.long x1), .second, .val (.int x2), .unset, .unset, .unset, .unset, .unset, .unset, .unset] [])) rfl (hb hby at_0) (by decide) (by decide)
  obtain ⟨b1, g1⟩ : ∃ z, z = h0.size := ⟨_, rfl⟩
  rw [← g1] at A1 D1 U1 st1
  have g_b1 : Z.heap.size ≤ b1 := Nat.le_trans O.1 (Nat.le_of_eq g1.symm)
  have O := own_ext_trans O E1
  have E_b1 := A1
  have F_value_b1 : Fld Z h1 b1 "com/example/sundew/sundew/value/IntegerValue" "value" "J" (.long (0 : Int64)) := D1 (Or.inr (hw _ (List.mem_of_getElem? (i := 15) rfl))) (ty := .long) (by decide)
  refine own_st (T' := T1) (F' := (mkF m 3 #[.val (.long x0), .second, .val (.long x1), .second, .val (.int x2), .unset, .unset, .unset, .unset, .unset, .unset, .unset] [(.ref b1)])) st1 ?_
  refine own_st (T' := T1) (F' := (mkF m 4 #[.val (.long x0), .second, .val (.long x1), .second, .val (.int x2), .unset, .unset, .unset, .unset, .unset, .unset, .unset] [(.ref b1), (.ref b1)])) (fun t k => XS.dup X1.here hx rfl (hb hby at_3) rfl rfl k) ?_
  refine own_st (T' := T1) (F' := (mkF m 5 #[.val (.long x0), .second, .val (.long x1), .second, .val (.int x2), .unset, .unset, .unset, .unset, .unset, .unset, .unset] [(.long x0), (.ref b1), (.ref b1)])) (fun t k => XS.lloadN X1.here hx rfl (hb hby at_4) rfl k) ?_
  obtain ⟨v2, _, ⟨T2, L2, k2, n2⟩, -, X2, ⟨Lc2, hQ2, l2, y2, z2⟩, st2⟩ := X1.specialBack hx (y := (⟨"com/example/sundew/sundew/value/IntegerValue", "<init>", "(J)V"⟩ : MethodName)) rfl hown (mvT hZ (hw _ (List.mem_of_getElem? (i := 3) rfl))) (mvT hZ (hw _ (List.mem_of_getElem? (i := 4) rfl))) (mvT hZ (hw _ (List.mem_of_getElem? (i := 5) rfl))) (by decide) (backOf (W := 1) (rm1 l Z a0 CX [] b1 x0 (0 : Int64) h1 O E_b1 g_b1 F_value_b1) hZ (hw _ (List.mem_of_getElem? (i := 5) rfl)) (hw _ (List.mem_of_getElem? (i := 2) rfl)) (by decide) (by decide)) (g := (mkF m 5 #[.val (.long x0), .second, .val (.long x1), .second, .val (.int x2), .unset, .unset, .unset, .unset, .unset, .unset, .unset] [(.long x0), (.ref b1), (.ref b1)])) rfl (by rw [hml]; rfl) (Steps.refl _) (a := b1) (argsL := [(.long x0)]) (rest := [(.ref b1)]) (lenOf pd_1 rfl) rfl (by show 2 * 0 + _ ≤ _; exact Nat.le_of_eq rfl) (hb hby at_5) (fun _ _ => ⟨rfl, e1, (by decide : 1 + 0 ≤ _), (by decide : 1 + 0 ≤ _)⟩)
  dsimp only [Pt.U, Pt.locs, Pt.cells, Pt.slots] at X2 l2 y2 z2 st2 hQ2
  subst l2 y2 z2
  obtain ⟨rfl, N2q, K2, F_value_b1⟩ := hQ2
  have N := Fr.app N N2q
  have E_b1 := E_b1.keep K2
  have O := own_O_keep O K2 (allS g_b1 all0)
  refine own_tr (T' := T2) (F' := (mkF m 8 #[.val (.long x0), .second, .val (.long x1), .second, .val (.int x2), .unset, .unset, .unset, .unset, .unset, .unset, .unset] [(.ref b1)])) st2 ?_
  refine own_st (T' := T2) (F' := (mkF m 10 #[.val (.long x0), .second, .val (.long x1), .second, .val (.int x2), .val (.ref b1), .unset, .unset, .unset, .unset, .unset, .unset] [])) (fun t k => XS.astore X2.here hx rfl (hb hby at_8) rfl rfl (l' := #[.val (.long x0), .second, .val (.long x1), .second, .val (.int x2), .val (.ref b1), .unset, .unset, .unset, .unset, .unset, .unset]) rfl k) ?_
  refine own_st (T' := T2) (F' := (mkF m 12 #[.val (.long x0), .second, .val (.long x1), .second, .val (.int x2), .val (.ref b1), .unset, .unset, .unset, .unset, .unset, .unset] [(.int x2)])) (fun t k => XS.iload X2.here hx rfl (hb hby at_10) rfl k) ?_
  refine own_st (T' := T2) (F' := (mkF m 13 #[.val (.long x0), .second, .val (.long x1), .second, .val (.int x2), .val (.ref b1), .unset, .unset, .unset, .unset, .unset, .unset] [(.int (4 : Int32)), (.int x2)])) (fun t k => XS.iconst X2.here hx rfl (hb hby at_12) k) ?_
  refine own_st (T' := T2) (F' := (mkF m 14 #[.val (.long x0), .second, .val (.long x1), .second, .val (.int x2), .val (.ref b1), .unset, .unset, .unset, .unset, .unset, .unset] [(.int (x2 &&& (4 : Int32)))])) (fun t k => XS.iand X2.here hx rfl (hb hby at_13) rfl k) ?_
  by_cases hc14_3 : (x2 &&& (4 : Int32)) = (0 : Int32)
  · refine own_st (T' := T2) (F' := (mkF m 21 #[.val (.long x0), .second, .val (.long x1), .second, .val (.int x2), .val (.ref b1), .unset, .unset, .unset, .unset, .unset, .unset] [])) (fun t k => XS.ifYes X2.here hx rfl (pc0 := 14) (pc' := 21) rfl (hb hby at_14) rfl ((if0 _ _).trans (teq hc14_3).1) (by decide) (by decide) k) ?_
    refine own_st (T' := T2) (F' := (mkF m 22 #[.val (.long x0), .second, .val (.long x1), .second, .val (.int x2), .val (.ref b1), .unset, .unset, .unset, .unset, .unset, .unset] [(.int (0 : Int32))])) (fun t k => XS.iconst X2.here hx rfl (hb hby at_21) k) ?_
    refine own_st (T' := T2) (F' := (mkF m 24 #[.val (.long x0), .second, .val (.long x1), .second, .val (.int x2), .val (.ref b1), .val (.int (0 : Int32)), .unset, .unset, .unset, .unset, .unset] [])) (fun t k => XS.istore X2.here hx rfl (hb hby at_22) rfl (l' := #[.val (.long x0), .second, .val (.long x1), .second, .val (.int x2), .val (.ref b1), .val (.int (0 : Int32)), .unset, .unset, .unset, .unset, .unset]) rfl k) ?_
    refine own_st (T' := T2) (F' := (mkF m 26 #[.val (.long x0), .second, .val (.long x1), .second, .val (.int x2), .val (.ref b1), .val (.int (0 : Int32)), .unset, .unset, .unset, .unset, .unset] [(.int (0 : Int32))])) (fun t k => XS.iload X2.here hx rfl (hb hby at_24) rfl k) ?_
    refine own_st (T' := T2) (F' := (mkF m 33 #[.val (.long x0), .second, .val (.long x1), .second, .val (.int x2), .val (.ref b1), .val (.int (0 : Int32)), .unset, .unset, .unset, .unset, .unset] [])) (fun t k => XS.ifYes X2.here hx rfl (pc0 := 26) (pc' := 33) rfl (hb hby at_26) rfl ((if0 _ _).trans (teq rfl).1) (by decide) (by decide) k) ?_
    refine own_st (T' := T2) (F' := (mkF m 34 #[.val (.long x0), .second, .val (.long x1), .second, .val (.int x2), .val (.ref b1), .val (.int (0 : Int32)), .unset, .unset, .unset, .unset, .unset] [(.long x1)])) (fun t k => XS.lloadN X2.here hx rfl (hb hby at_33) rfl k) ?_
    refine own_st (T' := T2) (F' := (mkF m 36 #[.val (.long x0), .second, .val (.long x1), .second, .val (.int x2), .val (.ref b1), .val (.int (0 : Int32)), .val (.long x1), .second, .unset, .unset, .unset] [])) (fun t k => XS.lstore X2.here hx rfl (hb hby at_34) rfl (l' := #[.val (.long x0), .second, .val (.long x1), .second, .val (.int x2), .val (.ref b1), .val (.int (0 : Int32)), .val (.long x1), .second, .unset, .unset, .unset]) rfl k) ?_
    refine own_st (T' := T2) (F' := (mkF m 38 #[.val (.long x0), .second, .val (.long x1), .second, .val (.int x2), .val (.ref b1), .val (.int (0 : Int32)), .val (.long x1), .second, .unset, .unset, .unset] [(.int x2)])) (fun t k => XS.iload X2.here hx rfl (hb hby at_36) rfl k) ?_
    refine own_st (T' := T2) (F' := (mkF m 39 #[.val (.long x0), .second, .val (.long x1), .second, .val (.int x2), .val (.ref b1), .val (.int (0 : Int32)), .val (.long x1), .second, .unset, .unset, .unset] [(.int (3 : Int32)), (.int x2)])) (fun t k => XS.iconst X2.here hx rfl (hb hby at_38) k) ?_
    refine own_st (T' := T2) (F' := (mkF m 40 #[.val (.long x0), .second, .val (.long x1), .second, .val (.int x2), .val (.ref b1), .val (.int (0 : Int32)), .val (.long x1), .second, .unset, .unset, .unset] [(.int (x2 &&& (3 : Int32)))])) (fun t k => XS.iand X2.here hx rfl (hb hby at_39) rfl k) ?_
    refine own_st (T' := T2) (F' := (mkF m 42 #[.val (.long x0), .second, .val (.long x1), .second, .val (.int x2), .val (.ref b1), .val (.int (0 : Int32)), .val (.long x1), .second, .val (.int (x2 &&& (3 : Int32))), .unset, .unset] [])) (fun t k => XS.istore X2.here hx rfl (hb hby at_40) rfl (l' := #[.val (.long x0), .second, .val (.long x1), .second, .val (.int x2), .val (.ref b1), .val (.int (0 : Int32)), .val (.long x1), .second, .val (.int (x2 &&& (3 : Int32))), .unset, .unset]) rfl k) ?_
    refine own_st (T' := T2) (F' := (mkF m 44 #[.val (.long x0), .second, .val (.long x1), .second, .val (.int x2), .val (.ref b1), .val (.int (0 : Int32)), .val (.long x1), .second, .val (.int (x2 &&& (3 : Int32))), .unset, .unset] [(.int (x2 &&& (3 : Int32)))])) (fun t k => XS.iload X2.here hx rfl (hb hby at_42) rfl k) ?_
    by_cases hc44_4 : (x2 &&& (3 : Int32)) = (0 : Int32)
    · refine own_st (T' := T2) (F' := (mkF m 47 #[.val (.long x0), .second, .val (.long x1), .second, .val (.int x2), .val (.ref b1), .val (.int (0 : Int32)), .val (.long x1), .second, .val (.int (x2 &&& (3 : Int32))), .unset, .unset] [])) (fun t k => XS.ifNo X2.here hx rfl (hb hby at_44) rfl ((if0 _ _).trans (teq hc44_4).2) k) ?_
      obtain ⟨T5, h5, X5, e5, E5, A5, D5, U5, st5⟩ := newO X2 hx hZ hown (hw _ (List.mem_of_getElem? (i := 0) rfl)) (hw _ (List.mem_of_getElem? (i := 1) rfl)) (hw _ (List.mem_of_getElem? (i := 2) rfl)) rfl (g := (mkF m 47 #[.val (.long x0), .second, .val (.long x1), .second, .val (.int x2), .val (.ref b1), .val (.int (0 : Int32)), .val (.long x1), .second, .val (.int (x2 &&& (3 : Int32))), .unset, .unset] [])) rfl (hb hby at_47) (by decide) (by decide)
      obtain ⟨b5, g5⟩ : ∃ z, z = T2.heap.size := ⟨_, rfl⟩
      rw [← g5] at A5 D5 U5 st5
      have ne_b1_b5 : b1 ≠ b5 := Nat.ne_of_lt (Nat.lt_of_lt_of_le E_b1.lt (Nat.le_of_eq g5.symm))
      have g_b5 : Z.heap.size ≤ b5 := Nat.le_trans O.1 (Nat.le_of_eq g5.symm)
      have E_b1 := E_b1.ext E5
      have F_value_b1 := F_value_b1.ext E5
      have O := own_ext_trans O E5
      have E_b5 := A5
      have F_value_b5 : Fld Z h5 b5 "com/example/sundew/sundew/value/IntegerValue" "value" "J" (.long (0 : Int64)) := D5 (Or.inr (hw _ (List.mem_of_getElem? (i := 15) rfl))) (ty := .long) (by decide)
      refine own_st (T' := T5) (F' := (mkF m 50 #[.val (.long x0), .second, .val (.long x1), .second, .val (.int x2), .val (.ref b1), .val (.int (0 : Int32)), .val (.long x1), .second, .val (.int (x2 &&& (3 : Int32))), .unset, .unset] [(.ref b5)])) st5 ?_
      refine own_st (T' := T5) (F' := (mkF m 51 #[.val (.long x0), .second, .val (.long x1), .second, .val (.int x2), .val (.ref b1), .val (.int (0 : Int32)), .val (.long x1), .second, .val (.int (x2 &&& (3 : Int32))), .unset, .unset] [(.ref b5), (.ref b5)])) (fun t k => XS.dup X5.here hx rfl (hb hby at_50) rfl rfl k) ?_
      refine own_st (T' := T5) (F' := (mkF m 53 #[.val (.long x0), .second, .val (.long x1), .second, .val (.int x2), .val (.ref b1), .val (.int (0 : Int32)), .val (.long x1), .second, .val (.int (x2 &&& (3 : Int32))), .unset, .unset] [(.long x1), (.ref b5), (.ref b5)])) (fun t k => XS.lload X5.here hx rfl (hb hby at_51) rfl k) ?_
      obtain ⟨v6, _, ⟨T6, L6, k6, n6⟩, -, X6, ⟨Lc6, hQ6, l6, y6, z6⟩, st6⟩ := X5.specialBack hx (y := (⟨"com/example/sundew/sundew/value/IntegerValue", "<init>", "(J)V"⟩ : MethodName)) rfl hown (mvT hZ (hw _ (List.mem_of_getElem? (i := 3) rfl))) (mvT hZ (hw _ (List.mem_of_getElem? (i := 4) rfl))) (mvT hZ (hw _ (List.mem_of_getElem? (i := 5) rfl))) (by decide) (backOf (W := 1) (rm1 l Z a0 CX [] b5 x1 (0 : Int64) h5 O E_b5 g_b5 F_value_b5) hZ (hw _ (List.mem_of_getElem? (i := 5) rfl)) (hw _ (List.mem_of_getElem? (i := 2) rfl)) (by decide) (by decide)) (g := (mkF m 53 #[.val (.long x0), .second, .val (.long x1), .second, .val (.int x2), .val (.ref b1), .val (.int (0 : Int32)), .val (.long x1), .second, .val (.int (x2 &&& (3 : Int32))), .unset, .unset] [(.long x1), (.ref b5), (.ref b5)])) rfl (by rw [hml]; rfl) (Steps.refl _) (a := b5) (argsL := [(.long x1)]) (rest := [(.ref b5)]) (lenOf pd_1 rfl) rfl (by show 2 * 0 + _ ≤ _; exact Nat.le_of_eq rfl) (hb hby at_53) (fun _ _ => ⟨rfl, e5, (by decide : 2 + 0 ≤ _), (by decide : 2 + 0 ≤ _)⟩)
      dsimp only [Pt.U, Pt.locs, Pt.cells, Pt.slots] at X6 l6 y6 z6 st6 hQ6
      subst l6 y6 z6
      obtain ⟨rfl, N6q, K6, F_value_b5⟩ := hQ6
      have N := Fr.app N N6q
      have E_b1 := E_b1.keep K6
      have F_value_b1 := F_value_b1.keep K6 (ninS ne_b1_b5 nin0)
      have E_b5 := E_b5.keep K6
      have O := own_O_keep O K6 (allS g_b5 all0)
      refine own_tr (T' := T6) (F' := (mkF m 56 #[.val (.long x0), .second, .val (.long x1), .second, .val (.int x2), .val (.ref b1), .val (.int (0 : Int32)), .val (.long x1), .second, .val (.int (x2 &&& (3 : Int32))), .unset, .unset] [(.ref b5)])) st6 ?_
      refine own_st (T' := T6) (F' := (mkF m 58 #[.val (.long x0), .second, .val (.long x1), .second, .val (.int x2), .val (.ref b1), .val (.int (0 : Int32)), .val (.long x1), .second, .val (.int (x2 &&& (3 : Int32))), .val (.ref b5), .unset] [])) (fun t k => XS.astore X6.here hx rfl (hb hby at_56) rfl rfl (l' := #[.val (.long x0), .second, .val (.long x1), .second, .val (.int x2), .val (.ref b1), .val (.int (0 : Int32)), .val (.long x1), .second, .val (.int (x2 &&& (3 : Int32))), .val (.ref b5), .unset]) rfl k) ?_
      refine own_st (T' := T6) (F' := (mkF m 59 #[.val (.long x0), .second, .val (.long x1), .second, .val (.int x2), .val (.ref b1), .val (.int (0 : Int32)), .val (.long x1), .second, .val (.int (x2 &&& (3 : Int32))), .val (.ref b5), .unset] [(.long x0)])) (fun t k => XS.lloadN X6.here hx rfl (hb hby at_58) rfl k) ?_
      refine own_st (T' := T6) (F' := (mkF m 61 #[.val (.long x0), .second, .val (.long x1), .second, .val (.int x2), .val (.ref b1), .val (.int (0 : Int32)), .val (.long x1), .second, .val (.int (x2 &&& (3 : Int32))), .val (.ref b5), .unset] [(.long x1), (.long x0)])) (fun t k => XS.lload X6.here hx rfl (hb hby at_59) rfl k) ?_
      refine own_st (T' := T6) (F' := (mkF m 62 #[.val (.long x0), .second, .val (.long x1), .second, .val (.int x2), .val (.ref b1), .val (.int (0 : Int32)), .val (.long x1), .second, .val (.int (x2 &&& (3 : Int32))), .val (.ref b5), .unset] [(.int (lcmpW x0 x1))])) (fun t k => XS.lcmp X6.here hx rfl (hb hby at_61) rfl k) ?_
      by_cases hc62_7 : (lcmpW x0 x1) = (0 : Int32)
      · refine own_st (T' := T6) (F' := (mkF m 65 #[.val (.long x0), .second, .val (.long x1), .second, .val (.int x2), .val (.ref b1), .val (.int (0 : Int32)), .val (.long x1), .second, .val (.int (x2 &&& (3 : Int32))), .val (.ref b5), .unset] [])) (fun t k => XS.ifNo X6.here hx rfl (hb hby at_62) rfl ((if0 _ _).trans (teq hc62_7).2) k) ?_
        refine own_st (T' := T6) (F' := (mkF m 66 #[.val (.long x0), .second, .val (.long x1), .second, .val (.int x2), .val (.ref b1), .val (.int (0 : Int32)), .val (.long x1), .second, .val (.int (x2 &&& (3 : Int32))), .val (.ref b5), .unset] [(.int (1 : Int32))])) (fun t k => XS.iconst X6.here hx rfl (hb hby at_65) k) ?_
        refine own_st (T' := T6) (F' := (mkF m 70 #[.val (.long x0), .second, .val (.long x1), .second, .val (.int x2), .val (.ref b1), .val (.int (0 : Int32)), .val (.long x1), .second, .val (.int (x2 &&& (3 : Int32))), .val (.ref b5), .unset] [(.int (1 : Int32))])) (fun t k => XS.goto X6.here hx rfl (pc0 := 66) (pc' := 70) rfl (hb hby at_66) (by decide) (by decide) k) ?_
        refine own_st (T' := T6) (F' := (mkF m 72 #[.val (.long x0), .second, .val (.long x1), .second, .val (.int x2), .val (.ref b1), .val (.int (0 : Int32)), .val (.long x1), .second, .val (.int (x2 &&& (3 : Int32))), .val (.ref b5), .val (.int (1 : Int32))] [])) (fun t k => XS.istore X6.here hx rfl (hb hby at_70) rfl (l' := #[.val (.long x0), .second, .val (.long x1), .second, .val (.int x2), .val (.ref b1), .val (.int (0 : Int32)), .val (.long x1), .second, .val (.int (x2 &&& (3 : Int32))), .val (.ref b5), .val (.int (1 : Int32))]) rfl k) ?_
        refine own_st (T' := T6) (F' := (mkF m 130 #[.val (.long x0), .second, .val (.long x1), .second, .val (.int x2), .val (.ref b1), .val (.int (0 : Int32)), .val (.long x1), .second, .val (.int (x2 &&& (3 : Int32))), .val (.ref b5), .val (.int (1 : Int32))] [])) (fun t k => XS.goto X6.here hx rfl (pc0 := 72) (pc' := 130) rfl (hb hby at_72) (by decide) (by decide) k) ?_
        refine own_st (T' := T6) (F' := (mkF m 132 #[.val (.long x0), .second, .val (.long x1), .second, .val (.int x2), .val (.ref b1), .val (.int (0 : Int32)), .val (.long x1), .second, .val (.int (x2 &&& (3 : Int32))), .val (.ref b5), .val (.int (1 : Int32))] [(.ref b1)])) (fun t k => XS.aload X6.here hx rfl (hb hby at_130) rfl rfl k) ?_
        refine own_st (T' := T6) (F' := (mkF m 134 #[.val (.long x0), .second, .val (.long x1), .second, .val (.int x2), .val (.ref b1), .val (.int (0 : Int32)), .val (.long x1), .second, .val (.int (x2 &&& (3 : Int32))), .val (.ref b5), .val (.int (1 : Int32))] [(.ref b5), (.ref b1)])) (fun t k => XS.aload X6.here hx rfl (hb hby at_132) rfl rfl k) ?_
        obtain ⟨cq8, kq8, q8a, q8b, q8c⟩ := isOf hZ rfl E_b1
        obtain ⟨v8, _, ⟨T8, L8, k8, n8⟩, -, X8, ⟨Lc8, hQ8, l8, y8, z8⟩, st8⟩ := X6.virtualBack hx (y := (⟨"com/example/sundew/sundew/value/IntegerValue", "equals", "(Ljava/lang/Object;)Z"⟩ : MethodName)) (z := (⟨"com/example/sundew/sundew/value/IntegerValue", "equals", "(Ljava/lang/Object;)Z"⟩ : MethodName)) hown (mvT hZ (hw _ (List.mem_of_getElem? (i := 16) rfl))) (mvT hZ (hw _ (List.mem_of_getElem? (i := 17) rfl))) (notFace_of_selects (args := #[]) (mvT hZ (hw _ (List.mem_of_getElem? (i := 19) rfl)))) (mvT hZ (hw _ (List.mem_of_getElem? (i := 19) rfl))) (mvT hZ (hw _ (List.mem_of_getElem? (i := 18) rfl))) (by decide) (backOf (W := 0) (rmE_S l Z a0 CX [] b1 b5 x0 x1 (1 : Int32) T6.heap O E_b5 F_value_b1 F_value_b5 ((if_pos ((lw_eq _ _).mp hc62_7)).symm)) hZ (hw _ (List.mem_of_getElem? (i := 20) rfl)) (hw _ (List.mem_of_getElem? (i := 2) rfl)) (by decide) (by decide)) q8a q8c (g := (mkF m 134 #[.val (.long x0), .second, .val (.long x1), .second, .val (.int x2), .val (.ref b1), .val (.int (0 : Int32)), .val (.long x1), .second, .val (.int (x2 &&& (3 : Int32))), .val (.ref b5), .val (.int (1 : Int32))] [(.ref b5), (.ref b1)])) rfl (by rw [hml]; rfl) (Steps.refl _) (argsL := [(.ref b5)]) (rest := []) (lenOf pd_2 rfl) rfl (by show 2 * 0 + _ ≤ _; exact Nat.le_of_eq rfl) (hb hby at_134) (fun _ _ => ⟨rfl, rfl, (by decide : 2 + 0 ≤ _), (by decide : 2 + 0 ≤ _)⟩)
        dsimp only [Pt.U, Pt.locs, Pt.cells, Pt.slots] at X8 l8 y8 z8 st8 hQ8
        subst l8 y8 z8
        obtain ⟨rfl, N8q, e8⟩ := hQ8
        have N := Fr.app N N8q
        refine own_tr (T' := T8) (F' := (mkF m 137 #[.val (.long x0), .second, .val (.long x1), .second, .val (.int x2), .val (.ref b1), .val (.int (0 : Int32)), .val (.long x1), .second, .val (.int (x2 &&& (3 : Int32))), .val (.ref b5), .val (.int (1 : Int32))] [(.int (1 : Int32))])) st8 ?_
        refine own_st (T' := T8) (F' := (mkF m 139 #[.val (.long x0), .second, .val (.long x1), .second, .val (.int x2), .val (.ref b1), .val (.int (0 : Int32)), .val (.long x1), .second, .val (.int (x2 &&& (3 : Int32))), .val (.ref b5), .val (.int (1 : Int32))] [(.int (1 : Int32)), (.int (1 : Int32))])) (fun t k => XS.iload X8.here hx rfl (hb hby at_137) rfl k) ?_
        refine own_st (T' := T8) (F' := (mkF m 142 #[.val (.long x0), .second, .val (.long x1), .second, .val (.int x2), .val (.ref b1), .val (.int (0 : Int32)), .val (.long x1), .second, .val (.int (x2 &&& (3 : Int32))), .val (.ref b5), .val (.int (1 : Int32))] [])) (fun t k => XS.icmpNo X8.here hx rfl (hb hby at_139) rfl (teq rfl).2 k) ?_
        refine own_st (T' := T8) (F' := (mkF m 143 #[.val (.long x0), .second, .val (.long x1), .second, .val (.int x2), .val (.ref b1), .val (.int (0 : Int32)), .val (.long x1), .second, .val (.int (x2 &&& (3 : Int32))), .val (.ref b5), .val (.int (1 : Int32))] [(.int (1 : Int32))])) (fun t k => XS.iconst X8.here hx rfl (hb hby at_142) k) ?_
        refine own_st (T' := T8) (F' := (mkF m 147 #[.val (.long x0), .second, .val (.long x1), .second, .val (.int x2), .val (.ref b1), .val (.int (0 : Int32)), .val (.long x1), .second, .val (.int (x2 &&& (3 : Int32))), .val (.ref b5), .val (.int (1 : Int32))] [(.int (1 : Int32))])) (fun t k => XS.goto X8.here hx rfl (pc0 := 143) (pc' := 147) rfl (hb hby at_143) (by decide) (by decide) k) ?_
        exact own_retN X8 hx (t := .boolean) Bd.returns (by simp) (by decide) (hb hby at_147) hlk (by show Q0 Z _ T8.heap _; rw [e8]; exact ⟨rfl, N⟩) (by decide) (by decide)
      · refine own_st (T' := T6) (F' := (mkF m 69 #[.val (.long x0), .second, .val (.long x1), .second, .val (.int x2), .val (.ref b1), .val (.int (0 : Int32)), .val (.long x1), .second, .val (.int (x2 &&& (3 : Int32))), .val (.ref b5), .unset] [])) (fun t k => XS.ifYes X6.here hx rfl (pc0 := 62) (pc' := 69) rfl (hb hby at_62) rfl ((if0 _ _).trans (feq hc62_7).2) (by decide) (by decide) k) ?_
        refine own_st (T' := T6) (F' := (mkF m 70 #[.val (.long x0), .second, .val (.long x1), .second, .val (.int x2), .val (.ref b1), .val (.int (0 : Int32)), .val (.long x1), .second, .val (.int (x2 &&& (3 : Int32))), .val (.ref b5), .unset] [(.int (0 : Int32))])) (fun t k => XS.iconst X6.here hx rfl (hb hby at_69) k) ?_
        refine own_st (T' := T6) (F' := (mkF m 72 #[.val (.long x0), .second, .val (.long x1), .second, .val (.int x2), .val (.ref b1), .val (.int (0 : Int32)), .val (.long x1), .second, .val (.int (x2 &&& (3 : Int32))), .val (.ref b5), .val (.int (0 : Int32))] [])) (fun t k => XS.istore X6.here hx rfl (hb hby at_70) rfl (l' := #[.val (.long x0), .second, .val (.long x1), .second, .val (.int x2), .val (.ref b1), .val (.int (0 : Int32)), .val (.long x1), .second, .val (.int (x2 &&& (3 : Int32))), .val (.ref b5), .val (.int (0 : Int32))]) rfl k) ?_
        refine own_st (T' := T6) (F' := (mkF m 130 #[.val (.long x0), .second, .val (.long x1), .second, .val (.int x2), .val (.ref b1), .val (.int (0 : Int32)), .val (.long x1), .second, .val (.int (x2 &&& (3 : Int32))), .val (.ref b5), .val (.int (0 : Int32))] [])) (fun t k => XS.goto X6.here hx rfl (pc0 := 72) (pc' := 130) rfl (hb hby at_72) (by decide) (by decide) k) ?_
        refine own_st (T' := T6) (F' := (mkF m 132 #[.val (.long x0), .second, .val (.long x1), .second, .val (.int x2), .val (.ref b1), .val (.int (0 : Int32)), .val (.long x1), .second, .val (.int (x2 &&& (3 : Int32))), .val (.ref b5), .val (.int (0 : Int32))] [(.ref b1)])) (fun t k => XS.aload X6.here hx rfl (hb hby at_130) rfl rfl k) ?_
        refine own_st (T' := T6) (F' := (mkF m 134 #[.val (.long x0), .second, .val (.long x1), .second, .val (.int x2), .val (.ref b1), .val (.int (0 : Int32)), .val (.long x1), .second, .val (.int (x2 &&& (3 : Int32))), .val (.ref b5), .val (.int (0 : Int32))] [(.ref b5), (.ref b1)])) (fun t k => XS.aload X6.here hx rfl (hb hby at_132) rfl rfl k) ?_
        obtain ⟨cq9, kq9, q9a, q9b, q9c⟩ := isOf hZ rfl E_b1
        obtain ⟨v9, _, ⟨T9, L9, k9, n9⟩, -, X9, ⟨Lc9, hQ9, l9, y9, z9⟩, st9⟩ := X6.virtualBack hx (y := (⟨"com/example/sundew/sundew/value/IntegerValue", "equals", "(Ljava/lang/Object;)Z"⟩ : MethodName)) (z := (⟨"com/example/sundew/sundew/value/IntegerValue", "equals", "(Ljava/lang/Object;)Z"⟩ : MethodName)) hown (mvT hZ (hw _ (List.mem_of_getElem? (i := 16) rfl))) (mvT hZ (hw _ (List.mem_of_getElem? (i := 17) rfl))) (notFace_of_selects (args := #[]) (mvT hZ (hw _ (List.mem_of_getElem? (i := 19) rfl)))) (mvT hZ (hw _ (List.mem_of_getElem? (i := 19) rfl))) (mvT hZ (hw _ (List.mem_of_getElem? (i := 18) rfl))) (by decide) (backOf (W := 0) (rmE_S l Z a0 CX [] b1 b5 x0 x1 (0 : Int32) T6.heap O E_b5 F_value_b1 F_value_b5 ((if_neg (fun q => hc62_7 ((lw_eq _ _).mpr q))).symm)) hZ (hw _ (List.mem_of_getElem? (i := 20) rfl)) (hw _ (List.mem_of_getElem? (i := 2) rfl)) (by decide) (by decide)) q9a q9c (g := (mkF m 134 #[.val (.long x0), .second, .val (.long x1), .second, .val (.int x2), .val (.ref b1), .val (.int (0 : Int32)), .val (.long x1), .second, .val (.int (x2 &&& (3 : Int32))), .val (.ref b5), .val (.int (0 : Int32))] [(.ref b5), (.ref b1)])) rfl (by rw [hml]; rfl) (Steps.refl _) (argsL := [(.ref b5)]) (rest := []) (lenOf pd_2 rfl) rfl (by show 2 * 0 + _ ≤ _; exact Nat.le_of_eq rfl) (hb hby at_134) (fun _ _ => ⟨rfl, rfl, (by decide : 2 + 0 ≤ _), (by decide : 2 + 0 ≤ _)⟩)
        dsimp only [Pt.U, Pt.locs, Pt.cells, Pt.slots] at X9 l9 y9 z9 st9 hQ9
        subst l9 y9 z9
        obtain ⟨rfl, N9q, e9⟩ := hQ9
        have N := Fr.app N N9q
        refine own_tr (T' := T9) (F' := (mkF m 137 #[.val (.long x0), .second, .val (.long x1), .second, .val (.int x2), .val (.ref b1), .val (.int (0 : Int32)), .val (.long x1), .second, .val (.int (x2 &&& (3 : Int32))), .val (.ref b5), .val (.int (0 : Int32))] [(.int (0 : Int32))])) st9 ?_
        refine own_st (T' := T9) (F' := (mkF m 139 #[.val (.long x0), .second, .val (.long x1), .second, .val (.int x2), .val (.ref b1), .val (.int (0 : Int32)), .val (.long x1), .second, .val (.int (x2 &&& (3 : Int32))), .val (.ref b5), .val (.int (0 : Int32))] [(.int (0 : Int32)), (.int (0 : Int32))])) (fun t k => XS.iload X9.here hx rfl (hb hby at_137) rfl k) ?_
        refine own_st (T' := T9) (F' := (mkF m 142 #[.val (.long x0), .second, .val (.long x1), .second, .val (.int x2), .val (.ref b1), .val (.int (0 : Int32)), .val (.long x1), .second, .val (.int (x2 &&& (3 : Int32))), .val (.ref b5), .val (.int (0 : Int32))] [])) (fun t k => XS.icmpNo X9.here hx rfl (hb hby at_139) rfl (teq rfl).2 k) ?_
        refine own_st (T' := T9) (F' := (mkF m 143 #[.val (.long x0), .second, .val (.long x1), .second, .val (.int x2), .val (.ref b1), .val (.int (0 : Int32)), .val (.long x1), .second, .val (.int (x2 &&& (3 : Int32))), .val (.ref b5), .val (.int (0 : Int32))] [(.int (1 : Int32))])) (fun t k => XS.iconst X9.here hx rfl (hb hby at_142) k) ?_
        refine own_st (T' := T9) (F' := (mkF m 147 #[.val (.long x0), .second, .val (.long x1), .second, .val (.int x2), .val (.ref b1), .val (.int (0 : Int32)), .val (.long x1), .second, .val (.int (x2 &&& (3 : Int32))), .val (.ref b5), .val (.int (0 : Int32))] [(.int (1 : Int32))])) (fun t k => XS.goto X9.here hx rfl (pc0 := 143) (pc' := 147) rfl (hb hby at_143) (by decide) (by decide) k) ?_
        exact own_retN X9 hx (t := .boolean) Bd.returns (by simp) (by decide) (hb hby at_147) hlk (by show Q0 Z _ T9.heap _; rw [e9]; exact ⟨rfl, N⟩) (by decide) (by decide)
    · refine own_st (T' := T2) (F' := (mkF m 75 #[.val (.long x0), .second, .val (.long x1), .second, .val (.int x2), .val (.ref b1), .val (.int (0 : Int32)), .val (.long x1), .second, .val (.int (x2 &&& (3 : Int32))), .unset, .unset] [])) (fun t k => XS.ifYes X2.here hx rfl (pc0 := 44) (pc' := 75) rfl (hb hby at_44) rfl ((if0 _ _).trans (feq hc44_4).2) (by decide) (by decide) k) ?_
      refine own_st (T' := T2) (F' := (mkF m 77 #[.val (.long x0), .second, .val (.long x1), .second, .val (.int x2), .val (.ref b1), .val (.int (0 : Int32)), .val (.long x1), .second, .val (.int (x2 &&& (3 : Int32))), .unset, .unset] [(.int (x2 &&& (3 : Int32)))])) (fun t k => XS.iload X2.here hx rfl (hb hby at_75) rfl k) ?_
      refine own_st (T' := T2) (F' := (mkF m 78 #[.val (.long x0), .second, .val (.long x1), .second, .val (.int x2), .val (.ref b1), .val (.int (0 : Int32)), .val (.long x1), .second, .val (.int (x2 &&& (3 : Int32))), .unset, .unset] [(.int (1 : Int32)), (.int (x2 &&& (3 : Int32)))])) (fun t k => XS.iconst X2.here hx rfl (hb hby at_77) k) ?_
      by_cases hc78_10 : (x2 &&& (3 : Int32)) = (1 : Int32)
      · refine own_st (T' := T2) (F' := (mkF m 81 #[.val (.long x0), .second, .val (.long x1), .second, .val (.int x2), .val (.ref b1), .val (.int (0 : Int32)), .val (.long x1), .second, .val (.int (x2 &&& (3 : Int32))), .unset, .unset] [])) (fun t k => XS.icmpNo X2.here hx rfl (hb hby at_78) rfl (teq hc78_10).2 k) ?_
        refine own_st (T' := T2) (F' := (mkF m 82 #[.val (.long x0), .second, .val (.long x1), .second, .val (.int x2), .val (.ref b1), .val (.int (0 : Int32)), .val (.long x1), .second, .val (.int (x2 &&& (3 : Int32))), .unset, .unset] [.null])) (fun t k => XS.aconstNull X2.here hx rfl (hb hby at_81) k) ?_
        refine own_st (T' := T2) (F' := (mkF m 84 #[.val (.long x0), .second, .val (.long x1), .second, .val (.int x2), .val (.ref b1), .val (.int (0 : Int32)), .val (.long x1), .second, .val (.int (x2 &&& (3 : Int32))), .val .null, .unset] [])) (fun t k => XS.astore X2.here hx rfl (hb hby at_82) rfl rfl (l' := #[.val (.long x0), .second, .val (.long x1), .second, .val (.int x2), .val (.ref b1), .val (.int (0 : Int32)), .val (.long x1), .second, .val (.int (x2 &&& (3 : Int32))), .val .null, .unset]) rfl k) ?_
        refine own_st (T' := T2) (F' := (mkF m 85 #[.val (.long x0), .second, .val (.long x1), .second, .val (.int x2), .val (.ref b1), .val (.int (0 : Int32)), .val (.long x1), .second, .val (.int (x2 &&& (3 : Int32))), .val .null, .unset] [(.int (0 : Int32))])) (fun t k => XS.iconst X2.here hx rfl (hb hby at_84) k) ?_
        refine own_st (T' := T2) (F' := (mkF m 87 #[.val (.long x0), .second, .val (.long x1), .second, .val (.int x2), .val (.ref b1), .val (.int (0 : Int32)), .val (.long x1), .second, .val (.int (x2 &&& (3 : Int32))), .val .null, .val (.int (0 : Int32))] [])) (fun t k => XS.istore X2.here hx rfl (hb hby at_85) rfl (l' := #[.val (.long x0), .second, .val (.long x1), .second, .val (.int x2), .val (.ref b1), .val (.int (0 : Int32)), .val (.long x1), .second, .val (.int (x2 &&& (3 : Int32))), .val .null, .val (.int (0 : Int32))]) rfl k) ?_
        refine own_st (T' := T2) (F' := (mkF m 130 #[.val (.long x0), .second, .val (.long x1), .second, .val (.int x2), .val (.ref b1), .val (.int (0 : Int32)), .val (.long x1), .second, .val (.int (x2 &&& (3 : Int32))), .val .null, .val (.int (0 : Int32))] [])) (fun t k => XS.goto X2.here hx rfl (pc0 := 87) (pc' := 130) rfl (hb hby at_87) (by decide) (by decide) k) ?_
        refine own_st (T' := T2) (F' := (mkF m 132 #[.val (.long x0), .second, .val (.long x1), .second, .val (.int x2), .val (.ref b1), .val (.int (0 : Int32)), .val (.long x1), .second, .val (.int (x2 &&& (3 : Int32))), .val .null, .val (.int (0 : Int32))] [(.ref b1)])) (fun t k => XS.aload X2.here hx rfl (hb hby at_130) rfl rfl k) ?_
        refine own_st (T' := T2) (F' := (mkF m 134 #[.val (.long x0), .second, .val (.long x1), .second, .val (.int x2), .val (.ref b1), .val (.int (0 : Int32)), .val (.long x1), .second, .val (.int (x2 &&& (3 : Int32))), .val .null, .val (.int (0 : Int32))] [.null, (.ref b1)])) (fun t k => XS.aload X2.here hx rfl (hb hby at_132) rfl rfl k) ?_
        obtain ⟨cq11, kq11, q11a, q11b, q11c⟩ := isOf hZ rfl E_b1
        obtain ⟨v11, _, ⟨T11, L11, k11, n11⟩, -, X11, ⟨Lc11, hQ11, l11, y11, z11⟩, st11⟩ := X2.virtualBack hx (y := (⟨"com/example/sundew/sundew/value/IntegerValue", "equals", "(Ljava/lang/Object;)Z"⟩ : MethodName)) (z := (⟨"com/example/sundew/sundew/value/IntegerValue", "equals", "(Ljava/lang/Object;)Z"⟩ : MethodName)) hown (mvT hZ (hw _ (List.mem_of_getElem? (i := 16) rfl))) (mvT hZ (hw _ (List.mem_of_getElem? (i := 17) rfl))) (notFace_of_selects (args := #[]) (mvT hZ (hw _ (List.mem_of_getElem? (i := 19) rfl)))) (mvT hZ (hw _ (List.mem_of_getElem? (i := 19) rfl))) (mvT hZ (hw _ (List.mem_of_getElem? (i := 18) rfl))) (by decide) (backOf (W := 0) (rmE_N l Z a0 CX [] b1 T2.heap O) hZ (hw _ (List.mem_of_getElem? (i := 20) rfl)) (hw _ (List.mem_of_getElem? (i := 2) rfl)) (by decide) (by decide)) q11a q11c (g := (mkF m 134 #[.val (.long x0), .second, .val (.long x1), .second, .val (.int x2), .val (.ref b1), .val (.int (0 : Int32)), .val (.long x1), .second, .val (.int (x2 &&& (3 : Int32))), .val .null, .val (.int (0 : Int32))] [.null, (.ref b1)])) rfl (by rw [hml]; rfl) (Steps.refl _) (argsL := [.null]) (rest := []) (lenOf pd_2 rfl) rfl (by show 2 * 0 + _ ≤ _; exact Nat.le_of_eq rfl) (hb hby at_134) (fun _ _ => ⟨rfl, rfl, (by decide : 1 + 0 ≤ _), (by decide : 1 + 0 ≤ _)⟩)
        dsimp only [Pt.U, Pt.locs, Pt.cells, Pt.slots] at X11 l11 y11 z11 st11 hQ11
        subst l11 y11 z11
        obtain ⟨rfl, N11q, e11⟩ := hQ11
        have N := Fr.app N N11q
        refine own_tr (T' := T11) (F' := (mkF m 137 #[.val (.long x0), .second, .val (.long x1), .second, .val (.int x2), .val (.ref b1), .val (.int (0 : Int32)), .val (.long x1), .second, .val (.int (x2 &&& (3 : Int32))), .val .null, .val (.int (0 : Int32))] [(.int (0 : Int32))])) st11 ?_
        refine own_st (T' := T11) (F' := (mkF m 139 #[.val (.long x0), .second, .val (.long x1), .second, .val (.int x2), .val (.ref b1), .val (.int (0 : Int32)), .val (.long x1), .second, .val (.int (x2 &&& (3 : Int32))), .val .null, .val (.int (0 : Int32))] [(.int (0 : Int32)), (.int (0 : Int32))])) (fun t k => XS.iload X11.here hx rfl (hb hby at_137) rfl k) ?_
        refine own_st (T' := T11) (F' := (mkF m 142 #[.val (.long x0), .second, .val (.long x1), .second, .val (.int x2), .val (.ref b1), .val (.int (0 : Int32)), .val (.long x1), .second, .val (.int (x2 &&& (3 : Int32))), .val .null, .val (.int (0 : Int32))] [])) (fun t k => XS.icmpNo X11.here hx rfl (hb hby at_139) rfl (teq rfl).2 k) ?_
        refine own_st (T' := T11) (F' := (mkF m 143 #[.val (.long x0), .second, .val (.long x1), .second, .val (.int x2), .val (.ref b1), .val (.int (0 : Int32)), .val (.long x1), .second, .val (.int (x2 &&& (3 : Int32))), .val .null, .val (.int (0 : Int32))] [(.int (1 : Int32))])) (fun t k => XS.iconst X11.here hx rfl (hb hby at_142) k) ?_
        refine own_st (T' := T11) (F' := (mkF m 147 #[.val (.long x0), .second, .val (.long x1), .second, .val (.int x2), .val (.ref b1), .val (.int (0 : Int32)), .val (.long x1), .second, .val (.int (x2 &&& (3 : Int32))), .val .null, .val (.int (0 : Int32))] [(.int (1 : Int32))])) (fun t k => XS.goto X11.here hx rfl (pc0 := 143) (pc' := 147) rfl (hb hby at_143) (by decide) (by decide) k) ?_
        exact own_retN X11 hx (t := .boolean) Bd.returns (by simp) (by decide) (hb hby at_147) hlk (by show Q0 Z _ T11.heap _; rw [e11]; exact ⟨rfl, N⟩) (by decide) (by decide)
      · refine own_st (T' := T2) (F' := (mkF m 90 #[.val (.long x0), .second, .val (.long x1), .second, .val (.int x2), .val (.ref b1), .val (.int (0 : Int32)), .val (.long x1), .second, .val (.int (x2 &&& (3 : Int32))), .unset, .unset] [])) (fun t k => XS.icmpYes X2.here hx rfl (pc0 := 78) (pc' := 90) rfl (hb hby at_78) rfl (feq hc78_10).2 (by decide) (by decide) k) ?_
        refine own_st (T' := T2) (F' := (mkF m 92 #[.val (.long x0), .second, .val (.long x1), .second, .val (.int x2), .val (.ref b1), .val (.int (0 : Int32)), .val (.long x1), .second, .val (.int (x2 &&& (3 : Int32))), .unset, .unset] [(.int (x2 &&& (3 : Int32)))])) (fun t k => XS.iload X2.here hx rfl (hb hby at_90) rfl k) ?_
        refine own_st (T' := T2) (F' := (mkF m 93 #[.val (.long x0), .second, .val (.long x1), .second, .val (.int x2), .val (.ref b1), .val (.int (0 : Int32)), .val (.long x1), .second, .val (.int (x2 &&& (3 : Int32))), .unset, .unset] [(.int (2 : Int32)), (.int (x2 &&& (3 : Int32)))])) (fun t k => XS.iconst X2.here hx rfl (hb hby at_92) k) ?_
        by_cases hc93_12 : (x2 &&& (3 : Int32)) = (2 : Int32)
        · refine own_st (T' := T2) (F' := (mkF m 96 #[.val (.long x0), .second, .val (.long x1), .second, .val (.int x2), .val (.ref b1), .val (.int (0 : Int32)), .val (.long x1), .second, .val (.int (x2 &&& (3 : Int32))), .unset, .unset] [])) (fun t k => XS.icmpNo X2.here hx rfl (hb hby at_93) rfl (teq hc93_12).2 k) ?_
          refine own_st (T' := T2) (F' := (mkF m 97 #[.val (.long x0), .second, .val (.long x1), .second, .val (.int x2), .val (.ref b1), .val (.int (0 : Int32)), .val (.long x1), .second, .val (.int (x2 &&& (3 : Int32))), .unset, .unset] [(.long x0)])) (fun t k => XS.lloadN X2.here hx rfl (hb hby at_96) rfl k) ?_
          obtain ⟨v13, _, ⟨T13, L13, k13, n13⟩, -, X13, ⟨Lc13, hQ13, l13, y13, z13⟩, st13⟩ := Jvm.LawKit.callS X2 hx (y := (⟨"java/lang/Long", "valueOf", "(J)Ljava/lang/Long;"⟩ : MethodName)) hown (mvT hZ (hw _ (List.mem_of_getElem? (i := 31) rfl))) (mvT hZ (hw _ (List.mem_of_getElem? (i := 32) rfl))) (mvT hZ (hw _ (List.mem_of_getElem? (i := 33) rfl))) (mvT hZ (hw _ (List.mem_of_getElem? (i := 34) rfl))) (by decide) (backOf (W := 0) (rm5 l Z a0 CX [] x0 T2.heap O) hZ (hw _ (List.mem_of_getElem? (i := 34) rfl)) (hw _ (List.mem_of_getElem? (i := 33) rfl)) (by decide) (by decide)) (g := (mkF m 97 #[.val (.long x0), .second, .val (.long x1), .second, .val (.int x2), .val (.ref b1), .val (.int (0 : Int32)), .val (.long x1), .second, .val (.int (x2 &&& (3 : Int32))), .unset, .unset] [(.long x0)])) rfl (by rw [hml]; rfl) (argsL := [(.long x0)]) (rest := []) (lenOf pd_3 rfl) rfl (by show 2 * 0 + _ ≤ _; exact Nat.le_of_eq rfl) (hb hby at_97) (fun _ _ => ⟨rfl, rfl, (by decide : 1 + 1 ≤ _), (by decide : 1 + 1 ≤ _)⟩)
          dsimp only [Pt.U, Pt.locs, Pt.cells, Pt.slots] at X13 l13 y13 z13 st13 hQ13
          subst l13 y13 z13
          obtain ⟨r13, rfl, N13q, E13, X_r13⟩ := hQ13
          have N := Fr.app N N13q
          have E_b1 := E_b1.ext E13
          have F_value_b1 := F_value_b1.ext E13
          have O := own_ext_trans O E13
          refine own_st (T' := T13) (F' := (mkF m 100 #[.val (.long x0), .second, .val (.long x1), .second, .val (.int x2), .val (.ref b1), .val (.int (0 : Int32)), .val (.long x1), .second, .val (.int (x2 &&& (3 : Int32))), .unset, .unset] [(.ref r13)])) st13 ?_
          refine own_st (T' := T13) (F' := (mkF m 102 #[.val (.long x0), .second, .val (.long x1), .second, .val (.int x2), .val (.ref b1), .val (.int (0 : Int32)), .val (.long x1), .second, .val (.int (x2 &&& (3 : Int32))), .val (.ref r13), .unset] [])) (fun t k => XS.astore X13.here hx rfl (hb hby at_100) rfl rfl (l' := #[.val (.long x0), .second, .val (.long x1), .second, .val (.int x2), .val (.ref b1), .val (.int (0 : Int32)), .val (.long x1), .second, .val (.int (x2 &&& (3 : Int32))), .val (.ref r13), .unset]) rfl k) ?_
          refine own_st (T' := T13) (F' := (mkF m 103 #[.val (.long x0), .second, .val (.long x1), .second, .val (.int x2), .val (.ref b1), .val (.int (0 : Int32)), .val (.long x1), .second, .val (.int (x2 &&& (3 : Int32))), .val (.ref r13), .unset] [(.int (0 : Int32))])) (fun t k => XS.iconst X13.here hx rfl (hb hby at_102) k) ?_
          refine own_st (T' := T13) (F' := (mkF m 105 #[.val (.long x0), .second, .val (.long x1), .second, .val (.int x2), .val (.ref b1), .val (.int (0 : Int32)), .val (.long x1), .second, .val (.int (x2 &&& (3 : Int32))), .val (.ref r13), .val (.int (0 : Int32))] [])) (fun t k => XS.istore X13.here hx rfl (hb hby at_103) rfl (l' := #[.val (.long x0), .second, .val (.long x1), .second, .val (.int x2), .val (.ref b1), .val (.int (0 : Int32)), .val (.long x1), .second, .val (.int (x2 &&& (3 : Int32))), .val (.ref r13), .val (.int (0 : Int32))]) rfl k) ?_
          refine own_st (T' := T13) (F' := (mkF m 130 #[.val (.long x0), .second, .val (.long x1), .second, .val (.int x2), .val (.ref b1), .val (.int (0 : Int32)), .val (.long x1), .second, .val (.int (x2 &&& (3 : Int32))), .val (.ref r13), .val (.int (0 : Int32))] [])) (fun t k => XS.goto X13.here hx rfl (pc0 := 105) (pc' := 130) rfl (hb hby at_105) (by decide) (by decide) k) ?_
          refine own_st (T' := T13) (F' := (mkF m 132 #[.val (.long x0), .second, .val (.long x1), .second, .val (.int x2), .val (.ref b1), .val (.int (0 : Int32)), .val (.long x1), .second, .val (.int (x2 &&& (3 : Int32))), .val (.ref r13), .val (.int (0 : Int32))] [(.ref b1)])) (fun t k => XS.aload X13.here hx rfl (hb hby at_130) rfl rfl k) ?_
          refine own_st (T' := T13) (F' := (mkF m 134 #[.val (.long x0), .second, .val (.long x1), .second, .val (.int x2), .val (.ref b1), .val (.int (0 : Int32)), .val (.long x1), .second, .val (.int (x2 &&& (3 : Int32))), .val (.ref r13), .val (.int (0 : Int32))] [(.ref r13), (.ref b1)])) (fun t k => XS.aload X13.here hx rfl (hb hby at_132) rfl rfl k) ?_
          obtain ⟨cq14, kq14, q14a, q14b, q14c⟩ := isOf hZ rfl E_b1
          obtain ⟨v14, _, ⟨T14, L14, k14, n14⟩, -, X14, ⟨Lc14, hQ14, l14, y14, z14⟩, st14⟩ := X13.virtualBack hx (y := (⟨"com/example/sundew/sundew/value/IntegerValue", "equals", "(Ljava/lang/Object;)Z"⟩ : MethodName)) (z := (⟨"com/example/sundew/sundew/value/IntegerValue", "equals", "(Ljava/lang/Object;)Z"⟩ : MethodName)) hown (mvT hZ (hw _ (List.mem_of_getElem? (i := 16) rfl))) (mvT hZ (hw _ (List.mem_of_getElem? (i := 17) rfl))) (notFace_of_selects (args := #[]) (mvT hZ (hw _ (List.mem_of_getElem? (i := 19) rfl)))) (mvT hZ (hw _ (List.mem_of_getElem? (i := 19) rfl))) (mvT hZ (hw _ (List.mem_of_getElem? (i := 18) rfl))) (by decide) (backOf (W := 0) (rmE_L l Z a0 CX [] b1 r13 T13.heap O X_r13) hZ (hw _ (List.mem_of_getElem? (i := 20) rfl)) (hw _ (List.mem_of_getElem? (i := 2) rfl)) (by decide) (by decide)) q14a q14c (g := (mkF m 134 #[.val (.long x0), .second, .val (.long x1), .second, .val (.int x2), .val (.ref b1), .val (.int (0 : Int32)), .val (.long x1), .second, .val (.int (x2 &&& (3 : Int32))), .val (.ref r13), .val (.int (0 : Int32))] [(.ref r13), (.ref b1)])) rfl (by rw [hml]; rfl) (Steps.refl _) (argsL := [(.ref r13)]) (rest := []) (lenOf pd_2 rfl) rfl (by show 2 * 0 + _ ≤ _; exact Nat.le_of_eq rfl) (hb hby at_134) (fun _ _ => ⟨rfl, rfl, (by decide : 2 + 0 ≤ _), (by decide : 2 + 0 ≤ _)⟩)
          dsimp only [Pt.U, Pt.locs, Pt.cells, Pt.slots] at X14 l14 y14 z14 st14 hQ14
          subst l14 y14 z14
          obtain ⟨rfl, N14q, e14⟩ := hQ14
          have N := Fr.app N N14q
          refine own_tr (T' := T14) (F' := (mkF m 137 #[.val (.long x0), .second, .val (.long x1), .second, .val (.int x2), .val (.ref b1), .val (.int (0 : Int32)), .val (.long x1), .second, .val (.int (x2 &&& (3 : Int32))), .val (.ref r13), .val (.int (0 : Int32))] [(.int (0 : Int32))])) st14 ?_
          refine own_st (T' := T14) (F' := (mkF m 139 #[.val (.long x0), .second, .val (.long x1), .second, .val (.int x2), .val (.ref b1), .val (.int (0 : Int32)), .val (.long x1), .second, .val (.int (x2 &&& (3 : Int32))), .val (.ref r13), .val (.int (0 : Int32))] [(.int (0 : Int32)), (.int (0 : Int32))])) (fun t k => XS.iload X14.here hx rfl (hb hby at_137) rfl k) ?_
          refine own_st (T' := T14) (F' := (mkF m 142 #[.val (.long x0), .second, .val (.long x1), .second, .val (.int x2), .val (.ref b1), .val (.int (0 : Int32)), .val (.long x1), .second, .val (.int (x2 &&& (3 : Int32))), .val (.ref r13), .val (.int (0 : Int32))] [])) (fun t k => XS.icmpNo X14.here hx rfl (hb hby at_139) rfl (teq rfl).2 k) ?_
          refine own_st (T' := T14) (F' := (mkF m 143 #[.val (.long x0), .second, .val (.long x1), .second, .val (.int x2), .val (.ref b1), .val (.int (0 : Int32)), .val (.long x1), .second, .val (.int (x2 &&& (3 : Int32))), .val (.ref r13), .val (.int (0 : Int32))] [(.int (1 : Int32))])) (fun t k => XS.iconst X14.here hx rfl (hb hby at_142) k) ?_
          refine own_st (T' := T14) (F' := (mkF m 147 #[.val (.long x0), .second, .val (.long x1), .second, .val (.int x2), .val (.ref b1), .val (.int (0 : Int32)), .val (.long x1), .second, .val (.int (x2 &&& (3 : Int32))), .val (.ref r13), .val (.int (0 : Int32))] [(.int (1 : Int32))])) (fun t k => XS.goto X14.here hx rfl (pc0 := 143) (pc' := 147) rfl (hb hby at_143) (by decide) (by decide) k) ?_
          exact own_retN X14 hx (t := .boolean) Bd.returns (by simp) (by decide) (hb hby at_147) hlk (by show Q0 Z _ T14.heap _; rw [e14]; exact ⟨rfl, N⟩) (by decide) (by decide)
        · refine own_st (T' := T2) (F' := (mkF m 108 #[.val (.long x0), .second, .val (.long x1), .second, .val (.int x2), .val (.ref b1), .val (.int (0 : Int32)), .val (.long x1), .second, .val (.int (x2 &&& (3 : Int32))), .unset, .unset] [])) (fun t k => XS.icmpYes X2.here hx rfl (pc0 := 93) (pc' := 108) rfl (hb hby at_93) rfl (feq hc93_12).2 (by decide) (by decide) k) ?_
          refine own_st (T' := T2) (F' := (mkF m 110 #[.val (.long x0), .second, .val (.long x1), .second, .val (.int x2), .val (.ref b1), .val (.int (0 : Int32)), .val (.long x1), .second, .val (.int (x2 &&& (3 : Int32))), .unset, .unset] [(.int x2)])) (fun t k => XS.iload X2.here hx rfl (hb hby at_108) rfl k) ?_
          refine own_st (T' := T2) (F' := (mkF m 112 #[.val (.long x0), .second, .val (.long x1), .second, .val (.int x2), .val (.ref b1), .val (.int (0 : Int32)), .val (.long x1), .second, .val (.int (x2 &&& (3 : Int32))), .unset, .unset] [(.int (8 : Int32)), (.int x2)])) (fun t k => XS.bipush X2.here hx rfl (hb hby at_110) k) ?_
          refine own_st (T' := T2) (F' := (mkF m 113 #[.val (.long x0), .second, .val (.long x1), .second, .val (.int x2), .val (.ref b1), .val (.int (0 : Int32)), .val (.long x1), .second, .val (.int (x2 &&& (3 : Int32))), .unset, .unset] [(.int (x2 &&& (8 : Int32)))])) (fun t k => XS.iand X2.here hx rfl (hb hby at_112) rfl k) ?_
          by_cases hc113_15 : (x2 &&& (8 : Int32)) = (0 : Int32)
          · refine own_st (T' := T2) (F' := (mkF m 122 #[.val (.long x0), .second, .val (.long x1), .second, .val (.int x2), .val (.ref b1), .val (.int (0 : Int32)), .val (.long x1), .second, .val (.int (x2 &&& (3 : Int32))), .unset, .unset] [])) (fun t k => XS.ifYes X2.here hx rfl (pc0 := 113) (pc' := 122) rfl (hb hby at_113) rfl ((if0 _ _).trans (teq hc113_15).1) (by decide) (by decide) k) ?_
            obtain ⟨T16, X16, e16, st16⟩ := getS2 X2 hx hZ hown (host := "") (Or.inl (hw _ (List.mem_of_getElem? (i := 23) rfl))) Via.refl rfl (S_FALSE.ext O) (g := (mkF m 122 #[.val (.long x0), .second, .val (.long x1), .second, .val (.int x2), .val (.ref b1), .val (.int (0 : Int32)), .val (.long x1), .second, .val (.int (x2 &&& (3 : Int32))), .unset, .unset] [])) rfl (hb hby at_122)
            refine own_st (T' := T16) (F' := (mkF m 125 #[.val (.long x0), .second, .val (.long x1), .second, .val (.int x2), .val (.ref b1), .val (.int (0 : Int32)), .val (.long x1), .second, .val (.int (x2 &&& (3 : Int32))), .unset, .unset] [(.ref w_FALSE)])) st16 ?_
            refine own_st (T' := T16) (F' := (mkF m 127 #[.val (.long x0), .second, .val (.long x1), .second, .val (.int x2), .val (.ref b1), .val (.int (0 : Int32)), .val (.long x1), .second, .val (.int (x2 &&& (3 : Int32))), .val (.ref w_FALSE), .unset] [])) (fun t k => XS.astore X16.here hx rfl (hb hby at_125) rfl rfl (l' := #[.val (.long x0), .second, .val (.long x1), .second, .val (.int x2), .val (.ref b1), .val (.int (0 : Int32)), .val (.long x1), .second, .val (.int (x2 &&& (3 : Int32))), .val (.ref w_FALSE), .unset]) rfl k) ?_
            refine own_st (T' := T16) (F' := (mkF m 128 #[.val (.long x0), .second, .val (.long x1), .second, .val (.int x2), .val (.ref b1), .val (.int (0 : Int32)), .val (.long x1), .second, .val (.int (x2 &&& (3 : Int32))), .val (.ref w_FALSE), .unset] [(.int (0 : Int32))])) (fun t k => XS.iconst X16.here hx rfl (hb hby at_127) k) ?_
            refine own_st (T' := T16) (F' := (mkF m 130 #[.val (.long x0), .second, .val (.long x1), .second, .val (.int x2), .val (.ref b1), .val (.int (0 : Int32)), .val (.long x1), .second, .val (.int (x2 &&& (3 : Int32))), .val (.ref w_FALSE), .val (.int (0 : Int32))] [])) (fun t k => XS.istore X16.here hx rfl (hb hby at_128) rfl (l' := #[.val (.long x0), .second, .val (.long x1), .second, .val (.int x2), .val (.ref b1), .val (.int (0 : Int32)), .val (.long x1), .second, .val (.int (x2 &&& (3 : Int32))), .val (.ref w_FALSE), .val (.int (0 : Int32))]) rfl k) ?_
            refine own_st (T' := T16) (F' := (mkF m 132 #[.val (.long x0), .second, .val (.long x1), .second, .val (.int x2), .val (.ref b1), .val (.int (0 : Int32)), .val (.long x1), .second, .val (.int (x2 &&& (3 : Int32))), .val (.ref w_FALSE), .val (.int (0 : Int32))] [(.ref b1)])) (fun t k => XS.aload X16.here hx rfl (hb hby at_130) rfl rfl k) ?_
            refine own_st (T' := T16) (F' := (mkF m 134 #[.val (.long x0), .second, .val (.long x1), .second, .val (.int x2), .val (.ref b1), .val (.int (0 : Int32)), .val (.long x1), .second, .val (.int (x2 &&& (3 : Int32))), .val (.ref w_FALSE), .val (.int (0 : Int32))] [(.ref w_FALSE), (.ref b1)])) (fun t k => XS.aload X16.here hx rfl (hb hby at_132) rfl rfl k) ?_
            obtain ⟨cq17, kq17, q17a, q17b, q17c⟩ := isOf hZ e16 E_b1
            obtain ⟨v17, _, ⟨T17, L17, k17, n17⟩, -, X17, ⟨Lc17, hQ17, l17, y17, z17⟩, st17⟩ := X16.virtualBack hx (y := (⟨"com/example/sundew/sundew/value/IntegerValue", "equals", "(Ljava/lang/Object;)Z"⟩ : MethodName)) (z := (⟨"com/example/sundew/sundew/value/IntegerValue", "equals", "(Ljava/lang/Object;)Z"⟩ : MethodName)) hown (mvT hZ (hw _ (List.mem_of_getElem? (i := 16) rfl))) (mvT hZ (hw _ (List.mem_of_getElem? (i := 17) rfl))) (notFace_of_selects (args := #[]) (mvT hZ (hw _ (List.mem_of_getElem? (i := 19) rfl)))) (mvT hZ (hw _ (List.mem_of_getElem? (i := 19) rfl))) (mvT hZ (hw _ (List.mem_of_getElem? (i := 18) rfl))) (by decide) (backOf (W := 0) (rmE_B l Z a0 CX [] b1 w_FALSE T2.heap O (E_FALSE.ext O)) hZ (hw _ (List.mem_of_getElem? (i := 20) rfl)) (hw _ (List.mem_of_getElem? (i := 2) rfl)) (by decide) (by decide)) q17a q17c (g := (mkF m 134 #[.val (.long x0), .second, .val (.long x1), .second, .val (.int x2), .val (.ref b1), .val (.int (0 : Int32)), .val (.long x1), .second, .val (.int (x2 &&& (3 : Int32))), .val (.ref w_FALSE), .val (.int (0 : Int32))] [(.ref w_FALSE), (.ref b1)])) rfl (by rw [hml]; rfl) (Steps.refl _) (argsL := [(.ref w_FALSE)]) (rest := []) (lenOf pd_2 rfl) rfl (by show 2 * 0 + _ ≤ _; exact Nat.le_of_eq rfl) (hb hby at_134) (fun _ _ => ⟨rfl, e16, (by decide : 1 + 0 ≤ _), (by decide : 1 + 0 ≤ _)⟩)
            dsimp only [Pt.U, Pt.locs, Pt.cells, Pt.slots] at X17 l17 y17 z17 st17 hQ17
            subst l17 y17 z17
            obtain ⟨rfl, N17q, e17⟩ := hQ17
            have N := Fr.app N N17q
            refine own_tr (T' := T17) (F' := (mkF m 137 #[.val (.long x0), .second, .val (.long x1), .second, .val (.int x2), .val (.ref b1), .val (.int (0 : Int32)), .val (.long x1), .second, .val (.int (x2 &&& (3 : Int32))), .val (.ref w_FALSE), .val (.int (0 : Int32))] [(.int (0 : Int32))])) st17 ?_
            refine own_st (T' := T17) (F' := (mkF m 139 #[.val (.long x0), .second, .val (.long x1), .second, .val (.int x2), .val (.ref b1), .val (.int (0 : Int32)), .val (.long x1), .second, .val (.int (x2 &&& (3 : Int32))), .val (.ref w_FALSE), .val (.int (0 : Int32))] [(.int (0 : Int32)), (.int (0 : Int32))])) (fun t k => XS.iload X17.here hx rfl (hb hby at_137) rfl k) ?_
            refine own_st (T' := T17) (F' := (mkF m 142 #[.val (.long x0), .second, .val (.long x1), .second, .val (.int x2), .val (.ref b1), .val (.int (0 : Int32)), .val (.long x1), .second, .val (.int (x2 &&& (3 : Int32))), .val (.ref w_FALSE), .val (.int (0 : Int32))] [])) (fun t k => XS.icmpNo X17.here hx rfl (hb hby at_139) rfl (teq rfl).2 k) ?_
            refine own_st (T' := T17) (F' := (mkF m 143 #[.val (.long x0), .second, .val (.long x1), .second, .val (.int x2), .val (.ref b1), .val (.int (0 : Int32)), .val (.long x1), .second, .val (.int (x2 &&& (3 : Int32))), .val (.ref w_FALSE), .val (.int (0 : Int32))] [(.int (1 : Int32))])) (fun t k => XS.iconst X17.here hx rfl (hb hby at_142) k) ?_
            refine own_st (T' := T17) (F' := (mkF m 147 #[.val (.long x0), .second, .val (.long x1), .second, .val (.int x2), .val (.ref b1), .val (.int (0 : Int32)), .val (.long x1), .second, .val (.int (x2 &&& (3 : Int32))), .val (.ref w_FALSE), .val (.int (0 : Int32))] [(.int (1 : Int32))])) (fun t k => XS.goto X17.here hx rfl (pc0 := 143) (pc' := 147) rfl (hb hby at_143) (by decide) (by decide) k) ?_
            exact own_retN X17 hx (t := .boolean) Bd.returns (by simp) (by decide) (hb hby at_147) hlk (by show Q0 Z _ T17.heap _; rw [e17]; exact ⟨rfl, N⟩) (by decide) (by decide)
          · refine own_st (T' := T2) (F' := (mkF m 116 #[.val (.long x0), .second, .val (.long x1), .second, .val (.int x2), .val (.ref b1), .val (.int (0 : Int32)), .val (.long x1), .second, .val (.int (x2 &&& (3 : Int32))), .unset, .unset] [])) (fun t k => XS.ifNo X2.here hx rfl (hb hby at_113) rfl ((if0 _ _).trans (feq hc113_15).1) k) ?_
            obtain ⟨T18, X18, e18, st18⟩ := getS2 X2 hx hZ hown (host := "") (Or.inl (hw _ (List.mem_of_getElem? (i := 29) rfl))) Via.refl rfl (S_TRUE.ext O) (g := (mkF m 116 #[.val (.long x0), .second, .val (.long x1), .second, .val (.int x2), .val (.ref b1), .val (.int (0 : Int32)), .val (.long x1), .second, .val (.int (x2 &&& (3 : Int32))), .unset, .unset] [])) rfl (hb hby at_116)
            refine own_st (T' := T18) (F' := (mkF m 119 #[.val (.long x0), .second, .val (.long x1), .second, .val (.int x2), .val (.ref b1), .val (.int (0 : Int32)), .val (.long x1), .second, .val (.int (x2 &&& (3 : Int32))), .unset, .unset] [(.ref w_TRUE)])) st18 ?_
            refine own_st (T' := T18) (F' := (mkF m 125 #[.val (.long x0), .second, .val (.long x1), .second, .val (.int x2), .val (.ref b1), .val (.int (0 : Int32)), .val (.long x1), .second, .val (.int (x2 &&& (3 : Int32))), .unset, .unset] [(.ref w_TRUE)])) (fun t k => XS.goto X18.here hx rfl (pc0 := 119) (pc' := 125) rfl (hb hby at_119) (by decide) (by decide) k) ?_
            refine own_st (T' := T18) (F' := (mkF m 127 #[.val (.long x0), .second, .val (.long x1), .second, .val (.int x2), .val (.ref b1), .val (.int (0 : Int32)), .val (.long x1), .second, .val (.int (x2 &&& (3 : Int32))), .val (.ref w_TRUE), .unset] [])) (fun t k => XS.astore X18.here hx rfl (hb hby at_125) rfl rfl (l' := #[.val (.long x0), .second, .val (.long x1), .second, .val (.int x2), .val (.ref b1), .val (.int (0 : Int32)), .val (.long x1), .second, .val (.int (x2 &&& (3 : Int32))), .val (.ref w_TRUE), .unset]) rfl k) ?_
            refine own_st (T' := T18) (F' := (mkF m 128 #[.val (.long x0), .second, .val (.long x1), .second, .val (.int x2), .val (.ref b1), .val (.int (0 : Int32)), .val (.long x1), .second, .val (.int (x2 &&& (3 : Int32))), .val (.ref w_TRUE), .unset] [(.int (0 : Int32))])) (fun t k => XS.iconst X18.here hx rfl (hb hby at_127) k) ?_
            refine own_st (T' := T18) (F' := (mkF m 130 #[.val (.long x0), .second, .val (.long x1), .second, .val (.int x2), .val (.ref b1), .val (.int (0 : Int32)), .val (.long x1), .second, .val (.int (x2 &&& (3 : Int32))), .val (.ref w_TRUE), .val (.int (0 : Int32))] [])) (fun t k => XS.istore X18.here hx rfl (hb hby at_128) rfl (l' := #[.val (.long x0), .second, .val (.long x1), .second, .val (.int x2), .val (.ref b1), .val (.int (0 : Int32)), .val (.long x1), .second, .val (.int (x2 &&& (3 : Int32))), .val (.ref w_TRUE), .val (.int (0 : Int32))]) rfl k) ?_
            refine own_st (T' := T18) (F' := (mkF m 132 #[.val (.long x0), .second, .val (.long x1), .second, .val (.int x2), .val (.ref b1), .val (.int (0 : Int32)), .val (.long x1), .second, .val (.int (x2 &&& (3 : Int32))), .val (.ref w_TRUE), .val (.int (0 : Int32))] [(.ref b1)])) (fun t k => XS.aload X18.here hx rfl (hb hby at_130) rfl rfl k) ?_
            refine own_st (T' := T18) (F' := (mkF m 134 #[.val (.long x0), .second, .val (.long x1), .second, .val (.int x2), .val (.ref b1), .val (.int (0 : Int32)), .val (.long x1), .second, .val (.int (x2 &&& (3 : Int32))), .val (.ref w_TRUE), .val (.int (0 : Int32))] [(.ref w_TRUE), (.ref b1)])) (fun t k => XS.aload X18.here hx rfl (hb hby at_132) rfl rfl k) ?_
            obtain ⟨cq19, kq19, q19a, q19b, q19c⟩ := isOf hZ e18 E_b1
            obtain ⟨v19, _, ⟨T19, L19, k19, n19⟩, -, X19, ⟨Lc19, hQ19, l19, y19, z19⟩, st19⟩ := X18.virtualBack hx (y := (⟨"com/example/sundew/sundew/value/IntegerValue", "equals", "(Ljava/lang/Object;)Z"⟩ : MethodName)) (z := (⟨"com/example/sundew/sundew/value/IntegerValue", "equals", "(Ljava/lang/Object;)Z"⟩ : MethodName)) hown (mvT hZ (hw _ (List.mem_of_getElem? (i := 16) rfl))) (mvT hZ (hw _ (List.mem_of_getElem? (i := 17) rfl))) (notFace_of_selects (args := #[]) (mvT hZ (hw _ (List.mem_of_getElem? (i := 19) rfl)))) (mvT hZ (hw _ (List.mem_of_getElem? (i := 19) rfl))) (mvT hZ (hw _ (List.mem_of_getElem? (i := 18) rfl))) (by decide) (backOf (W := 0) (rmE_B l Z a0 CX [] b1 w_TRUE T2.heap O (E_TRUE.ext O)) hZ (hw _ (List.mem_of_getElem? (i := 20) rfl)) (hw _ (List.mem_of_getElem? (i := 2) rfl)) (by decide) (by decide)) q19a q19c (g := (mkF m 134 #[.val (.long x0), .second, .val (.long x1), .second, .val (.int x2), .val (.ref b1), .val (.int (0 : Int32)), .val (.long x1), .second, .val (.int (x2 &&& (3 : Int32))), .val (.ref w_TRUE), .val (.int (0 : Int32))] [(.ref w_TRUE), (.ref b1)])) rfl (by rw [hml]; rfl) (Steps.refl _) (argsL := [(.ref w_TRUE)]) (rest := []) (lenOf pd_2 rfl) rfl (by show 2 * 0 + _ ≤ _; exact Nat.le_of_eq rfl) (hb hby at_134) (fun _ _ => ⟨rfl, e18, (by decide : 1 + 0 ≤ _), (by decide : 1 + 0 ≤ _)⟩)
            dsimp only [Pt.U, Pt.locs, Pt.cells, Pt.slots] at X19 l19 y19 z19 st19 hQ19
            subst l19 y19 z19
            obtain ⟨rfl, N19q, e19⟩ := hQ19
            have N := Fr.app N N19q
            refine own_tr (T' := T19) (F' := (mkF m 137 #[.val (.long x0), .second, .val (.long x1), .second, .val (.int x2), .val (.ref b1), .val (.int (0 : Int32)), .val (.long x1), .second, .val (.int (x2 &&& (3 : Int32))), .val (.ref w_TRUE), .val (.int (0 : Int32))] [(.int (0 : Int32))])) st19 ?_
            refine own_st (T' := T19) (F' := (mkF m 139 #[.val (.long x0), .second, .val (.long x1), .second, .val (.int x2), .val (.ref b1), .val (.int (0 : Int32)), .val (.long x1), .second, .val (.int (x2 &&& (3 : Int32))), .val (.ref w_TRUE), .val (.int (0 : Int32))] [(.int (0 : Int32)), (.int (0 : Int32))])) (fun t k => XS.iload X19.here hx rfl (hb hby at_137) rfl k) ?_
            refine own_st (T' := T19) (F' := (mkF m 142 #[.val (.long x0), .second, .val (.long x1), .second, .val (.int x2), .val (.ref b1), .val (.int (0 : Int32)), .val (.long x1), .second, .val (.int (x2 &&& (3 : Int32))), .val (.ref w_TRUE), .val (.int (0 : Int32))] [])) (fun t k => XS.icmpNo X19.here hx rfl (hb hby at_139) rfl (teq rfl).2 k) ?_
            refine own_st (T' := T19) (F' := (mkF m 143 #[.val (.long x0), .second, .val (.long x1), .second, .val (.int x2), .val (.ref b1), .val (.int (0 : Int32)), .val (.long x1), .second, .val (.int (x2 &&& (3 : Int32))), .val (.ref w_TRUE), .val (.int (0 : Int32))] [(.int (1 : Int32))])) (fun t k => XS.iconst X19.here hx rfl (hb hby at_142) k) ?_
            refine own_st (T' := T19) (F' := (mkF m 147 #[.val (.long x0), .second, .val (.long x1), .second, .val (.int x2), .val (.ref b1), .val (.int (0 : Int32)), .val (.long x1), .second, .val (.int (x2 &&& (3 : Int32))), .val (.ref w_TRUE), .val (.int (0 : Int32))] [(.int (1 : Int32))])) (fun t k => XS.goto X19.here hx rfl (pc0 := 143) (pc' := 147) rfl (hb hby at_143) (by decide) (by decide) k) ?_
            exact own_retN X19 hx (t := .boolean) Bd.returns (by simp) (by decide) (hb hby at_147) hlk (by show Q0 Z _ T19.heap _; rw [e19]; exact ⟨rfl, N⟩) (by decide) (by decide)
  · refine own_st (T' := T2) (F' := (mkF m 17 #[.val (.long x0), .second, .val (.long x1), .second, .val (.int x2), .val (.ref b1), .unset, .unset, .unset, .unset, .unset, .unset] [])) (fun t k => XS.ifNo X2.here hx rfl (hb hby at_14) rfl ((if0 _ _).trans (feq hc14_3).1) k) ?_
    refine own_st (T' := T2) (F' := (mkF m 18 #[.val (.long x0), .second, .val (.long x1), .second, .val (.int x2), .val (.ref b1), .unset, .unset, .unset, .unset, .unset, .unset] [(.int (1 : Int32))])) (fun t k => XS.iconst X2.here hx rfl (hb hby at_17) k) ?_
    refine own_st (T' := T2) (F' := (mkF m 22 #[.val (.long x0), .second, .val (.long x1), .second, .val (.int x2), .val (.ref b1), .unset, .unset, .unset, .unset, .unset, .unset] [(.int (1 : Int32))])) (fun t k => XS.goto X2.here hx rfl (pc0 := 18) (pc' := 22) rfl (hb hby at_18) (by decide) (by decide) k) ?_
    refine own_st (T' := T2) (F' := (mkF m 24 #[.val (.long x0), .second, .val (.long x1), .second, .val (.int x2), .val (.ref b1), .val (.int (1 : Int32)), .unset, .unset, .unset, .unset, .unset] [])) (fun t k => XS.istore X2.here hx rfl (hb hby at_22) rfl (l' := #[.val (.long x0), .second, .val (.long x1), .second, .val (.int x2), .val (.ref b1), .val (.int (1 : Int32)), .unset, .unset, .unset, .unset, .unset]) rfl k) ?_
    refine own_st (T' := T2) (F' := (mkF m 26 #[.val (.long x0), .second, .val (.long x1), .second, .val (.int x2), .val (.ref b1), .val (.int (1 : Int32)), .unset, .unset, .unset, .unset, .unset] [(.int (1 : Int32))])) (fun t k => XS.iload X2.here hx rfl (hb hby at_24) rfl k) ?_
    refine own_st (T' := T2) (F' := (mkF m 29 #[.val (.long x0), .second, .val (.long x1), .second, .val (.int x2), .val (.ref b1), .val (.int (1 : Int32)), .unset, .unset, .unset, .unset, .unset] [])) (fun t k => XS.ifNo X2.here hx rfl (hb hby at_26) rfl ((if0 _ _).trans (feq (by decide : ¬ ((1 : Int32) = (0 : Int32)))).1) k) ?_
    refine own_st (T' := T2) (F' := (mkF m 30 #[.val (.long x0), .second, .val (.long x1), .second, .val (.int x2), .val (.ref b1), .val (.int (1 : Int32)), .unset, .unset, .unset, .unset, .unset] [(.long x0)])) (fun t k => XS.lloadN X2.here hx rfl (hb hby at_29) rfl k) ?_
    refine own_st (T' := T2) (F' := (mkF m 34 #[.val (.long x0), .second, .val (.long x1), .second, .val (.int x2), .val (.ref b1), .val (.int (1 : Int32)), .unset, .unset, .unset, .unset, .unset] [(.long x0)])) (fun t k => XS.goto X2.here hx rfl (pc0 := 30) (pc' := 34) rfl (hb hby at_30) (by decide) (by decide) k) ?_
    refine own_st (T' := T2) (F' := (mkF m 36 #[.val (.long x0), .second, .val (.long x1), .second, .val (.int x2), .val (.ref b1), .val (.int (1 : Int32)), .val (.long x0), .second, .unset, .unset, .unset] [])) (fun t k => XS.lstore X2.here hx rfl (hb hby at_34) rfl (l' := #[.val (.long x0), .second, .val (.long x1), .second, .val (.int x2), .val (.ref b1), .val (.int (1 : Int32)), .val (.long x0), .second, .unset, .unset, .unset]) rfl k) ?_
    refine own_st (T' := T2) (F' := (mkF m 38 #[.val (.long x0), .second, .val (.long x1), .second, .val (.int x2), .val (.ref b1), .val (.int (1 : Int32)), .val (.long x0), .second, .unset, .unset, .unset] [(.int x2)])) (fun t k => XS.iload X2.here hx rfl (hb hby at_36) rfl k) ?_
    refine own_st (T' := T2) (F' := (mkF m 39 #[.val (.long x0), .second, .val (.long x1), .second, .val (.int x2), .val (.ref b1), .val (.int (1 : Int32)), .val (.long x0), .second, .unset, .unset, .unset] [(.int (3 : Int32)), (.int x2)])) (fun t k => XS.iconst X2.here hx rfl (hb hby at_38) k) ?_
    refine own_st (T' := T2) (F' := (mkF m 40 #[.val (.long x0), .second, .val (.long x1), .second, .val (.int x2), .val (.ref b1), .val (.int (1 : Int32)), .val (.long x0), .second, .unset, .unset, .unset] [(.int (x2 &&& (3 : Int32)))])) (fun t k => XS.iand X2.here hx rfl (hb hby at_39) rfl k) ?_
    refine own_st (T' := T2) (F' := (mkF m 42 #[.val (.long x0), .second, .val (.long x1), .second, .val (.int x2), .val (.ref b1), .val (.int (1 : Int32)), .val (.long x0), .second, .val (.int (x2 &&& (3 : Int32))), .unset, .unset] [])) (fun t k => XS.istore X2.here hx rfl (hb hby at_40) rfl (l' := #[.val (.long x0), .second, .val (.long x1), .second, .val (.int x2), .val (.ref b1), .val (.int (1 : Int32)), .val (.long x0), .second, .val (.int (x2 &&& (3 : Int32))), .unset, .unset]) rfl k) ?_
    refine own_st (T' := T2) (F' := (mkF m 44 #[.val (.long x0), .second, .val (.long x1), .second, .val (.int x2), .val (.ref b1), .val (.int (1 : Int32)), .val (.long x0), .second, .val (.int (x2 &&& (3 : Int32))), .unset, .unset] [(.int (x2 &&& (3 : Int32)))])) (fun t k => XS.iload X2.here hx rfl (hb hby at_42) rfl k) ?_
    by_cases hc44_20 : (x2 &&& (3 : Int32)) = (0 : Int32)
    · refine own_st (T' := T2) (F' := (mkF m 47 #[.val (.long x0), .second, .val (.long x1), .second, .val (.int x2), .val (.ref b1), .val (.int (1 : Int32)), .val (.long x0), .second, .val (.int (x2 &&& (3 : Int32))), .unset, .unset] [])) (fun t k => XS.ifNo X2.here hx rfl (hb hby at_44) rfl ((if0 _ _).trans (teq hc44_20).2) k) ?_
      obtain ⟨T21, h21, X21, e21, E21, A21, D21, U21, st21⟩ := newO X2 hx hZ hown (hw _ (List.mem_of_getElem? (i := 0) rfl)) (hw _ (List.mem_of_getElem? (i := 1) rfl)) (hw _ (List.mem_of_getElem? (i := 2) rfl)) rfl (g := (mkF m 47 #[.val (.long x0), .second, .val (.long x1), .second, .val (.int x2), .val (.ref b1), .val (.int (1 : Int32)), .val (.long x0), .second, .val (.int (x2 &&& (3 : Int32))), .unset, .unset] [])) rfl (hb hby at_47) (by decide) (by decide)
      obtain ⟨b21, g21⟩ : ∃ z, z = T2.heap.size := ⟨_, rfl⟩
      rw [← g21] at A21 D21 U21 st21
      have ne_b1_b21 : b1 ≠ b21 := Nat.ne_of_lt (Nat.lt_of_lt_of_le E_b1.lt (Nat.le_of_eq g21.symm))
      have g_b21 : Z.heap.size ≤ b21 := Nat.le_trans O.1 (Nat.le_of_eq g21.symm)
      have E_b1 := E_b1.ext E21
      have F_value_b1 := F_value_b1.ext E21
      have O := own_ext_trans O E21
      have E_b21 := A21
      have F_value_b21 : Fld Z h21 b21 "com/example/sundew/sundew/value/IntegerValue" "value" "J" (.long (0 : Int64)) := D21 (Or.inr (hw _ (List.mem_of_getElem? (i := 15) rfl))) (ty := .long) (by decide)
      refine own_st (T' := T21) (F' := (mkF m 50 #[.val (.long x0), .second, .val (.long x1), .second, .val (.int x2), .val (.ref b1), .val (.int (1 : Int32)), .val (.long x0), .second, .val (.int (x2 &&& (3 : Int32))), .unset, .unset] [(.ref b21)])) st21 ?_
      refine own_st (T' := T21) (F' := (mkF m 51 #[.val (.long x0), .second, .val (.long x1), .second, .val (.int x2), .val (.ref b1), .val (.int (1 : Int32)), .val (.long x0), .second, .val (.int (x2 &&& (3 : Int32))), .unset, .unset] [(.ref b21), (.ref b21)])) (fun t k => XS.dup X21.here hx rfl (hb hby at_50) rfl rfl k) ?_
      refine own_st (T' := T21) (F' := (mkF m 53 #[.val (.long x0), .second, .val (.long x1), .second, .val (.int x2), .val (.ref b1), .val (.int (1 : Int32)), .val (.long x0), .second, .val (.int (x2 &&& (3 : Int32))), .unset, .unset] [(.long x0), (.ref b21), (.ref b21)])) (fun t k => XS.lload X21.here hx rfl (hb hby at_51) rfl k) ?_
      obtain ⟨v22, _, ⟨T22, L22, k22, n22⟩, -, X22, ⟨Lc22, hQ22, l22, y22, z22⟩, st22⟩ := X21.specialBack hx (y := (⟨"com/example/sundew/sundew/value/IntegerValue", "<init>", "(J)V"⟩ : MethodName)) rfl hown (mvT hZ (hw _ (List.mem_of_getElem? (i := 3) rfl))) (mvT hZ (hw _ (List.mem_of_getElem? (i := 4) rfl))) (mvT hZ (hw _ (List.mem_of_getElem? (i := 5) rfl))) (by decide) (backOf (W := 1) (rm1 l Z a0 CX [] b21 x0 (0 : Int64) h21 O E_b21 g_b21 F_value_b21) hZ (hw _ (List.mem_of_getElem? (i := 5) rfl)) (hw _ (List.mem_of_getElem? (i := 2) rfl)) (by decide) (by decide)) (g := (mkF m 53 #[.val (.long x0), .second, .val (.long x1), .second, .val (.int x2), .val (.ref b1), .val (.int (1 : Int32)), .val (.long x0), .second, .val (.int (x2 &&& (3 : Int32))), .unset, .unset] [(.long x0), (.ref b21), (.ref b21)])) rfl (by rw [hml]; rfl) (Steps.refl _) (a := b21) (argsL := [(.long x0)]) (rest := [(.ref b21)]) (lenOf pd_1 rfl) rfl (by show 2 * 0 + _ ≤ _; exact Nat.le_of_eq rfl) (hb hby at_53) (fun _ _ => ⟨rfl, e21, (by decide : 2 + 0 ≤ _), (by decide : 2 + 0 ≤ _)⟩)
      dsimp only [Pt.U, Pt.locs, Pt.cells, Pt.slots] at X22 l22 y22 z22 st22 hQ22
      subst l22 y22 z22
      obtain ⟨rfl, N22q, K22, F_value_b21⟩ := hQ22
      have N := Fr.app N N22q
      have E_b1 := E_b1.keep K22
      have F_value_b1 := F_value_b1.keep K22 (ninS ne_b1_b21 nin0)
      have E_b21 := E_b21.keep K22
      have O := own_O_keep O K22 (allS g_b21 all0)
      refine own_tr (T' := T22) (F' := (mkF m 56 #[.val (.long x0), .second, .val (.long x1), .second, .val (.int x2), .val (.ref b1), .val (.int (1 : Int32)), .val (.long x0), .second, .val (.int (x2 &&& (3 : Int32))), .unset, .unset] [(.ref b21)])) st22 ?_
      refine own_st (T' := T22) (F' := (mkF m 58 #[.val (.long x0), .second, .val (.long x1), .second, .val (.int x2), .val (.ref b1), .val (.int (1 : Int32)), .val (.long x0), .second, .val (.int (x2 &&& (3 : Int32))), .val (.ref b21), .unset] [])) (fun t k => XS.astore X22.here hx rfl (hb hby at_56) rfl rfl (l' := #[.val (.long x0), .second, .val (.long x1), .second, .val (.int x2), .val (.ref b1), .val (.int (1 : Int32)), .val (.long x0), .second, .val (.int (x2 &&& (3 : Int32))), .val (.ref b21), .unset]) rfl k) ?_
      refine own_st (T' := T22) (F' := (mkF m 59 #[.val (.long x0), .second, .val (.long x1), .second, .val (.int x2), .val (.ref b1), .val (.int (1 : Int32)), .val (.long x0), .second, .val (.int (x2 &&& (3 : Int32))), .val (.ref b21), .unset] [(.long x0)])) (fun t k => XS.lloadN X22.here hx rfl (hb hby at_58) rfl k) ?_
      refine own_st (T' := T22) (F' := (mkF m 61 #[.val (.long x0), .second, .val (.long x1), .second, .val (.int x2), .val (.ref b1), .val (.int (1 : Int32)), .val (.long x0), .second, .val (.int (x2 &&& (3 : Int32))), .val (.ref b21), .unset] [(.long x0), (.long x0)])) (fun t k => XS.lload X22.here hx rfl (hb hby at_59) rfl k) ?_
      refine own_st (T' := T22) (F' := (mkF m 62 #[.val (.long x0), .second, .val (.long x1), .second, .val (.int x2), .val (.ref b1), .val (.int (1 : Int32)), .val (.long x0), .second, .val (.int (x2 &&& (3 : Int32))), .val (.ref b21), .unset] [(.int (lcmpW x0 x0))])) (fun t k => XS.lcmp X22.here hx rfl (hb hby at_61) rfl k) ?_
      refine own_st (T' := T22) (F' := (mkF m 65 #[.val (.long x0), .second, .val (.long x1), .second, .val (.int x2), .val (.ref b1), .val (.int (1 : Int32)), .val (.long x0), .second, .val (.int (x2 &&& (3 : Int32))), .val (.ref b21), .unset] [])) (fun t k => XS.ifNo X22.here hx rfl (hb hby at_62) rfl ((if0 _ _).trans (teq ((lw_eq _ _).mpr rfl)).2) k) ?_
      refine own_st (T' := T22) (F' := (mkF m 66 #[.val (.long x0), .second, .val (.long x1), .second, .val (.int x2), .val (.ref b1), .val (.int (1 : Int32)), .val (.long x0), .second, .val (.int (x2 &&& (3 : Int32))), .val (.ref b21), .unset] [(.int (1 : Int32))])) (fun t k => XS.iconst X22.here hx rfl (hb hby at_65) k) ?_
      refine own_st (T' := T22) (F' := (mkF m 70 #[.val (.long x0), .second, .val (.long x1), .second, .val (.int x2), .val (.ref b1), .val (.int (1 : Int32)), .val (.long x0), .second, .val (.int (x2 &&& (3 : Int32))), .val (.ref b21), .unset] [(.int (1 : Int32))])) (fun t k => XS.goto X22.here hx rfl (pc0 := 66) (pc' := 70) rfl (hb hby at_66) (by decide) (by decide) k) ?_
      refine own_st (T' := T22) (F' := (mkF m 72 #[.val (.long x0), .second, .val (.long x1), .second, .val (.int x2), .val (.ref b1), .val (.int (1 : Int32)), .val (.long x0), .second, .val (.int (x2 &&& (3 : Int32))), .val (.ref b21), .val (.int (1 : Int32))] [])) (fun t k => XS.istore X22.here hx rfl (hb hby at_70) rfl (l' := #[.val (.long x0), .second, .val (.long x1), .second, .val (.int x2), .val (.ref b1), .val (.int (1 : Int32)), .val (.long x0), .second, .val (.int (x2 &&& (3 : Int32))), .val (.ref b21), .val (.int (1 : Int32))]) rfl k) ?_
      refine own_st (T' := T22) (F' := (mkF m 130 #[.val (.long x0), .second, .val (.long x1), .second, .val (.int x2), .val (.ref b1), .val (.int (1 : Int32)), .val (.long x0), .second, .val (.int (x2 &&& (3 : Int32))), .val (.ref b21), .val (.int (1 : Int32))] [])) (fun t k => XS.goto X22.here hx rfl (pc0 := 72) (pc' := 130) rfl (hb hby at_72) (by decide) (by decide) k) ?_
      refine own_st (T' := T22) (F' := (mkF m 132 #[.val (.long x0), .second, .val (.long x1), .second, .val (.int x2), .val (.ref b1), .val (.int (1 : Int32)), .val (.long x0), .second, .val (.int (x2 &&& (3 : Int32))), .val (.ref b21), .val (.int (1 : Int32))] [(.ref b1)])) (fun t k => XS.aload X22.here hx rfl (hb hby at_130) rfl rfl k) ?_
      refine own_st (T' := T22) (F' := (mkF m 134 #[.val (.long x0), .second, .val (.long x1), .second, .val (.int x2), .val (.ref b1), .val (.int (1 : Int32)), .val (.long x0), .second, .val (.int (x2 &&& (3 : Int32))), .val (.ref b21), .val (.int (1 : Int32))] [(.ref b21), (.ref b1)])) (fun t k => XS.aload X22.here hx rfl (hb hby at_132) rfl rfl k) ?_
      obtain ⟨cq23, kq23, q23a, q23b, q23c⟩ := isOf hZ rfl E_b1
      obtain ⟨v23, _, ⟨T23, L23, k23, n23⟩, -, X23, ⟨Lc23, hQ23, l23, y23, z23⟩, st23⟩ := X22.virtualBack hx (y := (⟨"com/example/sundew/sundew/value/IntegerValue", "equals", "(Ljava/lang/Object;)Z"⟩ : MethodName)) (z := (⟨"com/example/sundew/sundew/value/IntegerValue", "equals", "(Ljava/lang/Object;)Z"⟩ : MethodName)) hown (mvT hZ (hw _ (List.mem_of_getElem? (i := 16) rfl))) (mvT hZ (hw _ (List.mem_of_getElem? (i := 17) rfl))) (notFace_of_selects (args := #[]) (mvT hZ (hw _ (List.mem_of_getElem? (i := 19) rfl)))) (mvT hZ (hw _ (List.mem_of_getElem? (i := 19) rfl))) (mvT hZ (hw _ (List.mem_of_getElem? (i := 18) rfl))) (by decide) (backOf (W := 0) (rmE_S l Z a0 CX [] b1 b21 x0 x0 (1 : Int32) T22.heap O E_b21 F_value_b1 F_value_b21 ((if_pos rfl).symm)) hZ (hw _ (List.mem_of_getElem? (i := 20) rfl)) (hw _ (List.mem_of_getElem? (i := 2) rfl)) (by decide) (by decide)) q23a q23c (g := (mkF m 134 #[.val (.long x0), .second, .val (.long x1), .second, .val (.int x2), .val (.ref b1), .val (.int (1 : Int32)), .val (.long x0), .second, .val (.int (x2 &&& (3 : Int32))), .val (.ref b21), .val (.int (1 : Int32))] [(.ref b21), (.ref b1)])) rfl (by rw [hml]; rfl) (Steps.refl _) (argsL := [(.ref b21)]) (rest := []) (lenOf pd_2 rfl) rfl (by show 2 * 0 + _ ≤ _; exact Nat.le_of_eq rfl) (hb hby at_134) (fun _ _ => ⟨rfl, rfl, (by decide : 2 + 0 ≤ _), (by decide : 2 + 0 ≤ _)⟩)
      dsimp only [Pt.U, Pt.locs, Pt.cells, Pt.slots] at X23 l23 y23 z23 st23 hQ23
      subst l23 y23 z23
      obtain ⟨rfl, N23q, e23⟩ := hQ23
      have N := Fr.app N N23q
      refine own_tr (T' := T23) (F' := (mkF m 137 #[.val (.long x0), .second, .val (.long x1), .second, .val (.int x2), .val (.ref b1), .val (.int (1 : Int32)), .val (.long x0), .second, .val (.int (x2 &&& (3 : Int32))), .val (.ref b21), .val (.int (1 : Int32))] [(.int (1 : Int32))])) st23 ?_
      refine own_st (T' := T23) (F' := (mkF m 139 #[.val (.long x0), .second, .val (.long x1), .second, .val (.int x2), .val (.ref b1), .val (.int (1 : Int32)), .val (.long x0), .second, .val (.int (x2 &&& (3 : Int32))), .val (.ref b21), .val (.int (1 : Int32))] [(.int (1 : Int32)), (.int (1 : Int32))])) (fun t k => XS.iload X23.here hx rfl (hb hby at_137) rfl k) ?_
      refine own_st (T' := T23) (F' := (mkF m 142 #[.val (.long x0), .second, .val (.long x1), .second, .val (.int x2), .val (.ref b1), .val (.int (1 : Int32)), .val (.long x0), .second, .val (.int (x2 &&& (3 : Int32))), .val (.ref b21), .val (.int (1 : Int32))] [])) (fun t k => XS.icmpNo X23.here hx rfl (hb hby at_139) rfl (teq rfl).2 k) ?_
      refine own_st (T' := T23) (F' := (mkF m 143 #[.val (.long x0), .second, .val (.long x1), .second, .val (.int x2), .val (.ref b1), .val (.int (1 : Int32)), .val (.long x0), .second, .val (.int (x2 &&& (3 : Int32))), .val (.ref b21), .val (.int (1 : Int32))] [(.int (1 : Int32))])) (fun t k => XS.iconst X23.here hx rfl (hb hby at_142) k) ?_
      refine own_st (T' := T23) (F' := (mkF m 147 #[.val (.long x0), .second, .val (.long x1), .second, .val (.int x2), .val (.ref b1), .val (.int (1 : Int32)), .val (.long x0), .second, .val (.int (x2 &&& (3 : Int32))), .val (.ref b21), .val (.int (1 : Int32))] [(.int (1 : Int32))])) (fun t k => XS.goto X23.here hx rfl (pc0 := 143) (pc' := 147) rfl (hb hby at_143) (by decide) (by decide) k) ?_
      exact own_retN X23 hx (t := .boolean) Bd.returns (by simp) (by decide) (hb hby at_147) hlk (by show Q0 Z _ T23.heap _; rw [e23]; exact ⟨rfl, N⟩) (by decide) (by decide)
    · refine own_st (T' := T2) (F' := (mkF m 75 #[.val (.long x0), .second, .val (.long x1), .second, .val (.int x2), .val (.ref b1), .val (.int (1 : Int32)), .val (.long x0), .second, .val (.int (x2 &&& (3 : Int32))), .unset, .unset] [])) (fun t k => XS.ifYes X2.here hx rfl (pc0 := 44) (pc' := 75) rfl (hb hby at_44) rfl ((if0 _ _).trans (feq hc44_20).2) (by decide) (by decide) k) ?_
      refine own_st (T' := T2) (F' := (mkF m 77 #[.val (.long x0), .second, .val (.long x1), .second, .val (.int x2), .val (.ref b1), .val (.int (1 : Int32)), .val (.long x0), .second, .val (.int (x2 &&& (3 : Int32))), .unset, .unset] [(.int (x2 &&& (3 : Int32)))])) (fun t k => XS.iload X2.here hx rfl (hb hby at_75) rfl k) ?_
      refine own_st (T' := T2) (F' := (mkF m 78 #[.val (.long x0), .second, .val (.long x1), .second, .val (.int x2), .val (.ref b1), .val (.int (1 : Int32)), .val (.long x0), .second, .val (.int (x2 &&& (3 : Int32))), .unset, .unset] [(.int (1 : Int32)), (.int (x2 &&& (3 : Int32)))])) (fun t k => XS.iconst X2.here hx rfl (hb hby at_77) k) ?_
      by_cases hc78_24 : (x2 &&& (3 : Int32)) = (1 : Int32)
      · refine own_st (T' := T2) (F' := (mkF m 81 #[.val (.long x0), .second, .val (.long x1), .second, .val (.int x2), .val (.ref b1), .val (.int (1 : Int32)), .val (.long x0), .second, .val (.int (x2 &&& (3 : Int32))), .unset, .unset] [])) (fun t k => XS.icmpNo X2.here hx rfl (hb hby at_78) rfl (teq hc78_24).2 k) ?_
        refine own_st (T' := T2) (F' := (mkF m 82 #[.val (.long x0), .second, .val (.long x1), .second, .val (.int x2), .val (.ref b1), .val (.int (1 : Int32)), .val (.long x0), .second, .val (.int (x2 &&& (3 : Int32))), .unset, .unset] [.null])) (fun t k => XS.aconstNull X2.here hx rfl (hb hby at_81) k) ?_
        refine own_st (T' := T2) (F' := (mkF m 84 #[.val (.long x0), .second, .val (.long x1), .second, .val (.int x2), .val (.ref b1), .val (.int (1 : Int32)), .val (.long x0), .second, .val (.int (x2 &&& (3 : Int32))), .val .null, .unset] [])) (fun t k => XS.astore X2.here hx rfl (hb hby at_82) rfl rfl (l' := #[.val (.long x0), .second, .val (.long x1), .second, .val (.int x2), .val (.ref b1), .val (.int (1 : Int32)), .val (.long x0), .second, .val (.int (x2 &&& (3 : Int32))), .val .null, .unset]) rfl k) ?_
        refine own_st (T' := T2) (F' := (mkF m 85 #[.val (.long x0), .second, .val (.long x1), .second, .val (.int x2), .val (.ref b1), .val (.int (1 : Int32)), .val (.long x0), .second, .val (.int (x2 &&& (3 : Int32))), .val .null, .unset] [(.int (0 : Int32))])) (fun t k => XS.iconst X2.here hx rfl (hb hby at_84) k) ?_
        refine own_st (T' := T2) (F' := (mkF m 87 #[.val (.long x0), .second, .val (.long x1), .second, .val (.int x2), .val (.ref b1), .val (.int (1 : Int32)), .val (.long x0), .second, .val (.int (x2 &&& (3 : Int32))), .val .null, .val (.int (0 : Int32))] [])) (fun t k => XS.istore X2.here hx rfl (hb hby at_85) rfl (l' := #[.val (.long x0), .second, .val (.long x1), .second, .val (.int x2), .val (.ref b1), .val (.int (1 : Int32)), .val (.long x0), .second, .val (.int (x2 &&& (3 : Int32))), .val .null, .val (.int (0 : Int32))]) rfl k) ?_
        refine own_st (T' := T2) (F' := (mkF m 130 #[.val (.long x0), .second, .val (.long x1), .second, .val (.int x2), .val (.ref b1), .val (.int (1 : Int32)), .val (.long x0), .second, .val (.int (x2 &&& (3 : Int32))), .val .null, .val (.int (0 : Int32))] [])) (fun t k => XS.goto X2.here hx rfl (pc0 := 87) (pc' := 130) rfl (hb hby at_87) (by decide) (by decide) k) ?_
        refine own_st (T' := T2) (F' := (mkF m 132 #[.val (.long x0), .second, .val (.long x1), .second, .val (.int x2), .val (.ref b1), .val (.int (1 : Int32)), .val (.long x0), .second, .val (.int (x2 &&& (3 : Int32))), .val .null, .val (.int (0 : Int32))] [(.ref b1)])) (fun t k => XS.aload X2.here hx rfl (hb hby at_130) rfl rfl k) ?_
        refine own_st (T' := T2) (F' := (mkF m 134 #[.val (.long x0), .second, .val (.long x1), .second, .val (.int x2), .val (.ref b1), .val (.int (1 : Int32)), .val (.long x0), .second, .val (.int (x2 &&& (3 : Int32))), .val .null, .val (.int (0 : Int32))] [.null, (.ref b1)])) (fun t k => XS.aload X2.here hx rfl (hb hby at_132) rfl rfl k) ?_
        obtain ⟨cq25, kq25, q25a, q25b, q25c⟩ := isOf hZ rfl E_b1
        obtain ⟨v25, _, ⟨T25, L25, k25, n25⟩, -, X25, ⟨Lc25, hQ25, l25, y25, z25⟩, st25⟩ := X2.virtualBack hx (y := (⟨"com/example/sundew/sundew/value/IntegerValue", "equals", "(Ljava/lang/Object;)Z"⟩ : MethodName)) (z := (⟨"com/example/sundew/sundew/value/IntegerValue", "equals", "(Ljava/lang/Object;)Z"⟩ : MethodName)) hown (mvT hZ (hw _ (List.mem_of_getElem? (i := 16) rfl))) (mvT hZ (hw _ (List.mem_of_getElem? (i := 17) rfl))) (notFace_of_selects (args := #[]) (mvT hZ (hw _ (List.mem_of_getElem? (i := 19) rfl)))) (mvT hZ (hw _ (List.mem_of_getElem? (i := 19) rfl))) (mvT hZ (hw _ (List.mem_of_getElem? (i := 18) rfl))) (by decide) (backOf (W := 0) (rmE_N l Z a0 CX [] b1 T2.heap O) hZ (hw _ (List.mem_of_getElem? (i := 20) rfl)) (hw _ (List.mem_of_getElem? (i := 2) rfl)) (by decide) (by decide)) q25a q25c (g := (mkF m 134 #[.val (.long x0), .second, .val (.long x1), .second, .val (.int x2), .val (.ref b1), .val (.int (1 : Int32)), .val (.long x0), .second, .val (.int (x2 &&& (3 : Int32))), .val .null, .val (.int (0 : Int32))] [.null, (.ref b1)])) rfl (by rw [hml]; rfl) (Steps.refl _) (argsL := [.null]) (rest := []) (lenOf pd_2 rfl) rfl (by show 2 * 0 + _ ≤ _; exact Nat.le_of_eq rfl) (hb hby at_134) (fun _ _ => ⟨rfl, rfl, (by decide : 1 + 0 ≤ _), (by decide : 1 + 0 ≤ _)⟩)
        dsimp only [Pt.U, Pt.locs, Pt.cells, Pt.slots] at X25 l25 y25 z25 st25 hQ25
        subst l25 y25 z25
        obtain ⟨rfl, N25q, e25⟩ := hQ25
        have N := Fr.app N N25q
        refine own_tr (T' := T25) (F' := (mkF m 137 #[.val (.long x0), .second, .val (.long x1), .second, .val (.int x2), .val (.ref b1), .val (.int (1 : Int32)), .val (.long x0), .second, .val (.int (x2 &&& (3 : Int32))), .val .null, .val (.int (0 : Int32))] [(.int (0 : Int32))])) st25 ?_
        refine own_st (T' := T25) (F' := (mkF m 139 #[.val (.long x0), .second, .val (.long x1), .second, .val (.int x2), .val (.ref b1), .val (.int (1 : Int32)), .val (.long x0), .second, .val (.int (x2 &&& (3 : Int32))), .val .null, .val (.int (0 : Int32))] [(.int (0 : Int32)), (.int (0 : Int32))])) (fun t k => XS.iload X25.here hx rfl (hb hby at_137) rfl k) ?_
        refine own_st (T' := T25) (F' := (mkF m 142 #[.val (.long x0), .second, .val (.long x1), .second, .val (.int x2), .val (.ref b1), .val (.int (1 : Int32)), .val (.long x0), .second, .val (.int (x2 &&& (3 : Int32))), .val .null, .val (.int (0 : Int32))] [])) (fun t k => XS.icmpNo X25.here hx rfl (hb hby at_139) rfl (teq rfl).2 k) ?_
        refine own_st (T' := T25) (F' := (mkF m 143 #[.val (.long x0), .second, .val (.long x1), .second, .val (.int x2), .val (.ref b1), .val (.int (1 : Int32)), .val (.long x0), .second, .val (.int (x2 &&& (3 : Int32))), .val .null, .val (.int (0 : Int32))] [(.int (1 : Int32))])) (fun t k => XS.iconst X25.here hx rfl (hb hby at_142) k) ?_
        refine own_st (T' := T25) (F' := (mkF m 147 #[.val (.long x0), .second, .val (.long x1), .second, .val (.int x2), .val (.ref b1), .val (.int (1 : Int32)), .val (.long x0), .second, .val (.int (x2 &&& (3 : Int32))), .val .null, .val (.int (0 : Int32))] [(.int (1 : Int32))])) (fun t k => XS.goto X25.here hx rfl (pc0 := 143) (pc' := 147) rfl (hb hby at_143) (by decide) (by decide) k) ?_
        exact own_retN X25 hx (t := .boolean) Bd.returns (by simp) (by decide) (hb hby at_147) hlk (by show Q0 Z _ T25.heap _; rw [e25]; exact ⟨rfl, N⟩) (by decide) (by decide)
      · refine own_st (T' := T2) (F' := (mkF m 90 #[.val (.long x0), .second, .val (.long x1), .second, .val (.int x2), .val (.ref b1), .val (.int (1 : Int32)), .val (.long x0), .second, .val (.int (x2 &&& (3 : Int32))), .unset, .unset] [])) (fun t k => XS.icmpYes X2.here hx rfl (pc0 := 78) (pc' := 90) rfl (hb hby at_78) rfl (feq hc78_24).2 (by decide) (by decide) k) ?_
        refine own_st (T' := T2) (F' := (mkF m 92 #[.val (.long x0), .second, .val (.long x1), .second, .val (.int x2), .val (.ref b1), .val (.int (1 : Int32)), .val (.long x0), .second, .val (.int (x2 &&& (3 : Int32))), .unset, .unset] [(.int (x2 &&& (3 : Int32)))])) (fun t k => XS.iload X2.here hx rfl (hb hby at_90) rfl k) ?_
        refine own_st (T' := T2) (F' := (mkF m 93 #[.val (.long x0), .second, .val (.long x1), .second, .val (.int x2), .val (.ref b1), .val (.int (1 : Int32)), .val (.long x0), .second, .val (.int (x2 &&& (3 : Int32))), .unset, .unset] [(.int (2 : Int32)), (.int (x2 &&& (3 : Int32)))])) (fun t k => XS.iconst X2.here hx rfl (hb hby at_92) k) ?_
        by_cases hc93_26 : (x2 &&& (3 : Int32)) = (2 : Int32)
        · refine own_st (T' := T2) (F' := (mkF m 96 #[.val (.long x0), .second, .val (.long x1), .second, .val (.int x2), .val (.ref b1), .val (.int (1 : Int32)), .val (.long x0), .second, .val (.int (x2 &&& (3 : Int32))), .unset, .unset] [])) (fun t k => XS.icmpNo X2.here hx rfl (hb hby at_93) rfl (teq hc93_26).2 k) ?_
          refine own_st (T' := T2) (F' := (mkF m 97 #[.val (.long x0), .second, .val (.long x1), .second, .val (.int x2), .val (.ref b1), .val (.int (1 : Int32)), .val (.long x0), .second, .val (.int (x2 &&& (3 : Int32))), .unset, .unset] [(.long x0)])) (fun t k => XS.lloadN X2.here hx rfl (hb hby at_96) rfl k) ?_
          obtain ⟨v27, _, ⟨T27, L27, k27, n27⟩, -, X27, ⟨Lc27, hQ27, l27, y27, z27⟩, st27⟩ := Jvm.LawKit.callS X2 hx (y := (⟨"java/lang/Long", "valueOf", "(J)Ljava/lang/Long;"⟩ : MethodName)) hown (mvT hZ (hw _ (List.mem_of_getElem? (i := 31) rfl))) (mvT hZ (hw _ (List.mem_of_getElem? (i := 32) rfl))) (mvT hZ (hw _ (List.mem_of_getElem? (i := 33) rfl))) (mvT hZ (hw _ (List.mem_of_getElem? (i := 34) rfl))) (by decide) (backOf (W := 0) (rm5 l Z a0 CX [] x0 T2.heap O) hZ (hw _ (List.mem_of_getElem? (i := 34) rfl)) (hw _ (List.mem_of_getElem? (i := 33) rfl)) (by decide) (by decide)) (g := (mkF m 97 #[.val (.long x0), .second, .val (.long x1), .second, .val (.int x2), .val (.ref b1), .val (.int (1 : Int32)), .val (.long x0), .second, .val (.int (x2 &&& (3 : Int32))), .unset, .unset] [(.long x0)])) rfl (by rw [hml]; rfl) (argsL := [(.long x0)]) (rest := []) (lenOf pd_3 rfl) rfl (by show 2 * 0 + _ ≤ _; exact Nat.le_of_eq rfl) (hb hby at_97) (fun _ _ => ⟨rfl, rfl, (by decide : 1 + 1 ≤ _), (by decide : 1 + 1 ≤ _)⟩)
          dsimp only [Pt.U, Pt.locs, Pt.cells, Pt.slots] at X27 l27 y27 z27 st27 hQ27
          subst l27 y27 z27
          obtain ⟨r27, rfl, N27q, E27, X_r27⟩ := hQ27
          have N := Fr.app N N27q
          have E_b1 := E_b1.ext E27
          have F_value_b1 := F_value_b1.ext E27
          have O := own_ext_trans O E27
          refine own_st (T' := T27) (F' := (mkF m 100 #[.val (.long x0), .second, .val (.long x1), .second, .val (.int x2), .val (.ref b1), .val (.int (1 : Int32)), .val (.long x0), .second, .val (.int (x2 &&& (3 : Int32))), .unset, .unset] [(.ref r27)])) st27 ?_
          refine own_st (T' := T27) (F' := (mkF m 102 #[.val (.long x0), .second, .val (.long x1), .second, .val (.int x2), .val (.ref b1), .val (.int (1 : Int32)), .val (.long x0), .second, .val (.int (x2 &&& (3 : Int32))), .val (.ref r27), .unset] [])) (fun t k => XS.astore X27.here hx rfl (hb hby at_100) rfl rfl (l' := #[.val (.long x0), .second, .val (.long x1), .second, .val (.int x2), .val (.ref b1), .val (.int (1 : Int32)), .val (.long x0), .second, .val (.int (x2 &&& (3 : Int32))), .val (.ref r27), .unset]) rfl k) ?_
          refine own_st (T' := T27) (F' := (mkF m 103 #[.val (.long x0), .second, .val (.long x1), .second, .val (.int x2), .val (.ref b1), .val (.int (1 : Int32)), .val (.long x0), .second, .val (.int (x2 &&& (3 : Int32))), .val (.ref r27), .unset] [(.int (0 : Int32))])) (fun t k => XS.iconst X27.here hx rfl (hb hby at_102) k) ?_
          refine own_st (T' := T27) (F' := (mkF m 105 #[.val (.long x0), .second, .val (.long x1), .second, .val (.int x2), .val (.ref b1), .val (.int (1 : Int32)), .val (.long x0), .second, .val (.int (x2 &&& (3 : Int32))), .val (.ref r27), .val (.int (0 : Int32))] [])) (fun t k => XS.istore X27.here hx rfl (hb hby at_103) rfl (l' := #[.val (.long x0), .second, .val (.long x1), .second, .val (.int x2), .val (.ref b1), .val (.int (1 : Int32)), .val (.long x0), .second, .val (.int (x2 &&& (3 : Int32))), .val (.ref r27), .val (.int (0 : Int32))]) rfl k) ?_
          refine own_st (T' := T27) (F' := (mkF m 130 #[.val (.long x0), .second, .val (.long x1), .second, .val (.int x2), .val (.ref b1), .val (.int (1 : Int32)), .val (.long x0), .second, .val (.int (x2 &&& (3 : Int32))), .val (.ref r27), .val (.int (0 : Int32))] [])) (fun t k => XS.goto X27.here hx rfl (pc0 := 105) (pc' := 130) rfl (hb hby at_105) (by decide) (by decide) k) ?_
          refine own_st (T' := T27) (F' := (mkF m 132 #[.val (.long x0), .second, .val (.long x1), .second, .val (.int x2), .val (.ref b1), .val (.int (1 : Int32)), .val (.long x0), .second, .val (.int (x2 &&& (3 : Int32))), .val (.ref r27), .val (.int (0 : Int32))] [(.ref b1)])) (fun t k => XS.aload X27.here hx rfl (hb hby at_130) rfl rfl k) ?_
          refine own_st (T' := T27) (F' := (mkF m 134 #[.val (.long x0), .second, .val (.long x1), .second, .val (.int x2), .val (.ref b1), .val (.int (1 : Int32)), .val (.long x0), .second, .val (.int (x2 &&& (3 : Int32))), .val (.ref r27), .val (.int (0 : Int32))] [(.ref r27), (.ref b1)])) (fun t k => XS.aload X27.here hx rfl (hb hby at_132) rfl rfl k) ?_
          obtain ⟨cq28, kq28, q28a, q28b, q28c⟩ := isOf hZ rfl E_b1
          obtain ⟨v28, _, ⟨T28, L28, k28, n28⟩, -, X28, ⟨Lc28, hQ28, l28, y28, z28⟩, st28⟩ := X27.virtualBack hx (y := (⟨"com/example/sundew/sundew/value/IntegerValue", "equals", "(Ljava/lang/Object;)Z"⟩ : MethodName)) (z := (⟨"com/example/sundew/sundew/value/IntegerValue", "equals", "(Ljava/lang/Object;)Z"⟩ : MethodName)) hown (mvT hZ (hw _ (List.mem_of_getElem? (i := 16) rfl))) (mvT hZ (hw _ (List.mem_of_getElem? (i := 17) rfl))) (notFace_of_selects (args := #[]) (mvT hZ (hw _ (List.mem_of_getElem? (i := 19) rfl)))) (mvT hZ (hw _ (List.mem_of_getElem? (i := 19) rfl))) (mvT hZ (hw _ (List.mem_of_getElem? (i := 18) rfl))) (by decide) (backOf (W := 0) (rmE_L l Z a0 CX [] b1 r27 T27.heap O X_r27) hZ (hw _ (List.mem_of_getElem? (i := 20) rfl)) (hw _ (List.mem_of_getElem? (i := 2) rfl)) (by decide) (by decide)) q28a q28c (g := (mkF m 134 #[.val (.long x0), .second, .val (.long x1), .second, .val (.int x2), .val (.ref b1), .val (.int (1 : Int32)), .val (.long x0), .second, .val (.int (x2 &&& (3 : Int32))), .val (.ref r27), .val (.int (0 : Int32))] [(.ref r27), (.ref b1)])) rfl (by rw [hml]; rfl) (Steps.refl _) (argsL := [(.ref r27)]) (rest := []) (lenOf pd_2 rfl) rfl (by show 2 * 0 + _ ≤ _; exact Nat.le_of_eq rfl) (hb hby at_134) (fun _ _ => ⟨rfl, rfl, (by decide : 2 + 0 ≤ _), (by decide : 2 + 0 ≤ _)⟩)
          dsimp only [Pt.U, Pt.locs, Pt.cells, Pt.slots] at X28 l28 y28 z28 st28 hQ28
          subst l28 y28 z28
          obtain ⟨rfl, N28q, e28⟩ := hQ28
          have N := Fr.app N N28q
          refine own_tr (T' := T28) (F' := (mkF m 137 #[.val (.long x0), .second, .val (.long x1), .second, .val (.int x2), .val (.ref b1), .val (.int (1 : Int32)), .val (.long x0), .second, .val (.int (x2 &&& (3 : Int32))), .val (.ref r27), .val (.int (0 : Int32))] [(.int (0 : Int32))])) st28 ?_
          refine own_st (T' := T28) (F' := (mkF m 139 #[.val (.long x0), .second, .val (.long x1), .second, .val (.int x2), .val (.ref b1), .val (.int (1 : Int32)), .val (.long x0), .second, .val (.int (x2 &&& (3 : Int32))), .val (.ref r27), .val (.int (0 : Int32))] [(.int (0 : Int32)), (.int (0 : Int32))])) (fun t k => XS.iload X28.here hx rfl (hb hby at_137) rfl k) ?_
          refine own_st (T' := T28) (F' := (mkF m 142 #[.val (.long x0), .second, .val (.long x1), .second, .val (.int x2), .val (.ref b1), .val (.int (1 : Int32)), .val (.long x0), .second, .val (.int (x2 &&& (3 : Int32))), .val (.ref r27), .val (.int (0 : Int32))] [])) (fun t k => XS.icmpNo X28.here hx rfl (hb hby at_139) rfl (teq rfl).2 k) ?_
          refine own_st (T' := T28) (F' := (mkF m 143 #[.val (.long x0), .second, .val (.long x1), .second, .val (.int x2), .val (.ref b1), .val (.int (1 : Int32)), .val (.long x0), .second, .val (.int (x2 &&& (3 : Int32))), .val (.ref r27), .val (.int (0 : Int32))] [(.int (1 : Int32))])) (fun t k => XS.iconst X28.here hx rfl (hb hby at_142) k) ?_
          refine own_st (T' := T28) (F' := (mkF m 147 #[.val (.long x0), .second, .val (.long x1), .second, .val (.int x2), .val (.ref b1), .val (.int (1 : Int32)), .val (.long x0), .second, .val (.int (x2 &&& (3 : Int32))), .val (.ref r27), .val (.int (0 : Int32))] [(.int (1 : Int32))])) (fun t k => XS.goto X28.here hx rfl (pc0 := 143) (pc' := 147) rfl (hb hby at_143) (by decide) (by decide) k) ?_
          exact own_retN X28 hx (t := .boolean) Bd.returns (by simp) (by decide) (hb hby at_147) hlk (by show Q0 Z _ T28.heap _; rw [e28]; exact ⟨rfl, N⟩) (by decide) (by decide)
        · refine own_st (T' := T2) (F' := (mkF m 108 #[.val (.long x0), .second, .val (.long x1), .second, .val (.int x2), .val (.ref b1), .val (.int (1 : Int32)), .val (.long x0), .second, .val (.int (x2 &&& (3 : Int32))), .unset, .unset] [])) (fun t k => XS.icmpYes X2.here hx rfl (pc0 := 93) (pc' := 108) rfl (hb hby at_93) rfl (feq hc93_26).2 (by decide) (by decide) k) ?_
          refine own_st (T' := T2) (F' := (mkF m 110 #[.val (.long x0), .second, .val (.long x1), .second, .val (.int x2), .val (.ref b1), .val (.int (1 : Int32)), .val (.long x0), .second, .val (.int (x2 &&& (3 : Int32))), .unset, .unset] [(.int x2)])) (fun t k => XS.iload X2.here hx rfl (hb hby at_108) rfl k) ?_
          refine own_st (T' := T2) (F' := (mkF m 112 #[.val (.long x0), .second, .val (.long x1), .second, .val (.int x2), .val (.ref b1), .val (.int (1 : Int32)), .val (.long x0), .second, .val (.int (x2 &&& (3 : Int32))), .unset, .unset] [(.int (8 : Int32)), (.int x2)])) (fun t k => XS.bipush X2.here hx rfl (hb hby at_110) k) ?_
          refine own_st (T' := T2) (F' := (mkF m 113 #[.val (.long x0), .second, .val (.long x1), .second, .val (.int x2), .val (.ref b1), .val (.int (1 : Int32)), .val (.long x0), .second, .val (.int (x2 &&& (3 : Int32))), .unset, .unset] [(.int (x2 &&& (8 : Int32)))])) (fun t k => XS.iand X2.here hx rfl (hb hby at_112) rfl k) ?_
          by_cases hc113_29 : (x2 &&& (8 : Int32)) = (0 : Int32)
          · refine own_st (T' := T2) (F' := (mkF m 122 #[.val (.long x0), .second, .val (.long x1), .second, .val (.int x2), .val (.ref b1), .val (.int (1 : Int32)), .val (.long x0), .second, .val (.int (x2 &&& (3 : Int32))), .unset, .unset] [])) (fun t k => XS.ifYes X2.here hx rfl (pc0 := 113) (pc' := 122) rfl (hb hby at_113) rfl ((if0 _ _).trans (teq hc113_29).1) (by decide) (by decide) k) ?_
            obtain ⟨T30, X30, e30, st30⟩ := getS2 X2 hx hZ hown (host := "") (Or.inl (hw _ (List.mem_of_getElem? (i := 23) rfl))) Via.refl rfl (S_FALSE.ext O) (g := (mkF m 122 #[.val (.long x0), .second, .val (.long x1), .second, .val (.int x2), .val (.ref b1), .val (.int (1 : Int32)), .val (.long x0), .second, .val (.int (x2 &&& (3 : Int32))), .unset, .unset] [])) rfl (hb hby at_122)
            refine own_st (T' := T30) (F' := (mkF m 125 #[.val (.long x0), .second, .val (.long x1), .second, .val (.int x2), .val (.ref b1), .val (.int (1 : Int32)), .val (.long x0), .second, .val (.int (x2 &&& (3 : Int32))), .unset, .unset] [(.ref w_FALSE)])) st30 ?_
            refine own_st (T' := T30) (F' := (mkF m 127 #[.val (.long x0), .second, .val (.long x1), .second, .val (.int x2), .val (.ref b1), .val (.int (1 : Int32)), .val (.long x0), .second, .val (.int (x2 &&& (3 : Int32))), .val (.ref w_FALSE), .unset] [])) (fun t k => XS.astore X30.here hx rfl (hb hby at_125) rfl rfl (l' := #[.val (.long x0), .second, .val (.long x1), .second, .val (.int x2), .val (.ref b1), .val (.int (1 : Int32)), .val (.long x0), .second, .val (.int (x2 &&& (3 : Int32))), .val (.ref w_FALSE), .unset]) rfl k) ?_
            refine own_st (T' := T30) (F' := (mkF m 128 #[.val (.long x0), .second, .val (.long x1), .second, .val (.int x2), .val (.ref b1), .val (.int (1 : Int32)), .val (.long x0), .second, .val (.int (x2 &&& (3 : Int32))), .val (.ref w_FALSE), .unset] [(.int (0 : Int32))])) (fun t k => XS.iconst X30.here hx rfl (hb hby at_127) k) ?_
            refine own_st (T' := T30) (F' := (mkF m 130 #[.val (.long x0), .second, .val (.long x1), .second, .val (.int x2), .val (.ref b1), .val (.int (1 : Int32)), .val (.long x0), .second, .val (.int (x2 &&& (3 : Int32))), .val (.ref w_FALSE), .val (.int (0 : Int32))] [])) (fun t k => XS.istore X30.here hx rfl (hb hby at_128) rfl (l' := #[.val (.long x0), .second, .val (.long x1), .second, .val (.int x2), .val (.ref b1), .val (.int (1 : Int32)), .val (.long x0), .second, .val (.int (x2 &&& (3 : Int32))), .val (.ref w_FALSE), .val (.int (0 : Int32))]) rfl k) ?_
            refine own_st (T' := T30) (F' := (mkF m 132 #[.val (.long x0), .second, .val (.long x1), .second, .val (.int x2), .val (.ref b1), .val (.int (1 : Int32)), .val (.long x0), .second, .val (.int (x2 &&& (3 : Int32))), .val (.ref w_FALSE), .val (.int (0 : Int32))] [(.ref b1)])) (fun t k => XS.aload X30.here hx rfl (hb hby at_130) rfl rfl k) ?_
            refine own_st (T' := T30) (F' := (mkF m 134 #[.val (.long x0), .second, .val (.long x1), .second, .val (.int x2), .val (.ref b1), .val (.int (1 : Int32)), .val (.long x0), .second, .val (.int (x2 &&& (3 : Int32))), .val (.ref w_FALSE), .val (.int (0 : Int32))] [(.ref w_FALSE), (.ref b1)])) (fun t k => XS.aload X30.here hx rfl (hb hby at_132) rfl rfl k) ?_
            obtain ⟨cq31, kq31, q31a, q31b, q31c⟩ := isOf hZ e30 E_b1
            obtain ⟨v31, _, ⟨T31, L31, k31, n31⟩, -, X31, ⟨Lc31, hQ31, l31, y31, z31⟩, st31⟩ := X30.virtualBack hx (y := (⟨"com/example/sundew/sundew/value/IntegerValue", "equals", "(Ljava/lang/Object;)Z"⟩ : MethodName)) (z := (⟨"com/example/sundew/sundew/value/IntegerValue", "equals", "(Ljava/lang/Object;)Z"⟩ : MethodName)) hown (mvT hZ (hw _ (List.mem_of_getElem? (i := 16) rfl))) (mvT hZ (hw _ (List.mem_of_getElem? (i := 17) rfl))) (notFace_of_selects (args := #[]) (mvT hZ (hw _ (List.mem_of_getElem? (i := 19) rfl)))) (mvT hZ (hw _ (List.mem_of_getElem? (i := 19) rfl))) (mvT hZ (hw _ (List.mem_of_getElem? (i := 18) rfl))) (by decide) (backOf (W := 0) (rmE_B l Z a0 CX [] b1 w_FALSE T2.heap O (E_FALSE.ext O)) hZ (hw _ (List.mem_of_getElem? (i := 20) rfl)) (hw _ (List.mem_of_getElem? (i := 2) rfl)) (by decide) (by decide)) q31a q31c (g := (mkF m 134 #[.val (.long x0), .second, .val (.long x1), .second, .val (.int x2), .val (.ref b1), .val (.int (1 : Int32)), .val (.long x0), .second, .val (.int (x2 &&& (3 : Int32))), .val (.ref w_FALSE), .val (.int (0 : Int32))] [(.ref w_FALSE), (.ref b1)])) rfl (by rw [hml]; rfl) (Steps.refl _) (argsL := [(.ref w_FALSE)]) (rest := []) (lenOf pd_2 rfl) rfl (by show 2 * 0 + _ ≤ _; exact Nat.le_of_eq rfl) (hb hby at_134) (fun _ _ => ⟨rfl, e30, (by decide : 1 + 0 ≤ _), (by decide : 1 + 0 ≤ _)⟩)
            dsimp only [Pt.U, Pt.locs, Pt.cells, Pt.slots] at X31 l31 y31 z31 st31 hQ31
            subst l31 y31 z31
            obtain ⟨rfl, N31q, e31⟩ := hQ31
            have N := Fr.app N N31q
            refine own_tr (T' := T31) (F' := (mkF m 137 #[.val (.long x0), .second, .val (.long x1), .second, .val (.int x2), .val (.ref b1), .val (.int (1 : Int32)), .val (.long x0), .second, .val (.int (x2 &&& (3 : Int32))), .val (.ref w_FALSE), .val (.int (0 : Int32))] [(.int (0 : Int32))])) st31 ?_
            refine own_st (T' := T31) (F' := (mkF m 139 #[.val (.long x0), .second, .val (.long x1), .second, .val (.int x2), .val (.ref b1), .val (.int (1 : Int32)), .val (.long x0), .second, .val (.int (x2 &&& (3 : Int32))), .val (.ref w_FALSE), .val (.int (0 : Int32))] [(.int (0 : Int32)), (.int (0 : Int32))])) (fun t k => XS.iload X31.here hx rfl (hb hby at_137) rfl k) ?_
            refine own_st (T' := T31) (F' := (mkF m 142 #[.val (.long x0), .second, .val (.long x1), .second, .val (.int x2), .val (.ref b1), .val (.int (1 : Int32)), .val (.long x0), .second, .val (.int (x2 &&& (3 : Int32))), .val (.ref w_FALSE), .val (.int (0 : Int32))] [])) (fun t k => XS.icmpNo X31.here hx rfl (hb hby at_139) rfl (teq rfl).2 k) ?_
            refine own_st (T' := T31) (F' := (mkF m 143 #[.val (.long x0), .second, .val (.long x1), .second, .val (.int x2), .val (.ref b1), .val (.int (1 : Int32)), .val (.long x0), .second, .val (.int (x2 &&& (3 : Int32))), .val (.ref w_FALSE), .val (.int (0 : Int32))] [(.int (1 : Int32))])) (fun t k => XS.iconst X31.here hx rfl (hb hby at_142) k) ?_
            refine own_st (T' := T31) (F' := (mkF m 147 #[.val (.long x0), .second, .val (.long x1), .second, .val (.int x2), .val (.ref b1), .val (.int (1 : Int32)), .val (.long x0), .second, .val (.int (x2 &&& (3 : Int32))), .val (.ref w_FALSE), .val (.int (0 : Int32))] [(.int (1 : Int32))])) (fun t k => XS.goto X31.here hx rfl (pc0 := 143) (pc' := 147) rfl (hb hby at_143) (by decide) (by decide) k) ?_
            exact own_retN X31 hx (t := .boolean) Bd.returns (by simp) (by decide) (hb hby at_147) hlk (by show Q0 Z _ T31.heap _; rw [e31]; exact ⟨rfl, N⟩) (by decide) (by decide)
          · refine own_st (T' := T2) (F' := (mkF m 116 #[.val (.long x0), .second, .val (.long x1), .second, .val (.int x2), .val (.ref b1), .val (.int (1 : Int32)), .val (.long x0), .second, .val (.int (x2 &&& (3 : Int32))), .unset, .unset] [])) (fun t k => XS.ifNo X2.here hx rfl (hb hby at_113) rfl ((if0 _ _).trans (feq hc113_29).1) k) ?_
            obtain ⟨T32, X32, e32, st32⟩ := getS2 X2 hx hZ hown (host := "") (Or.inl (hw _ (List.mem_of_getElem? (i := 29) rfl))) Via.refl rfl (S_TRUE.ext O) (g := (mkF m 116 #[.val (.long x0), .second, .val (.long x1), .second, .val (.int x2), .val (.ref b1), .val (.int (1 : Int32)), .val (.long x0), .second, .val (.int (x2 &&& (3 : Int32))), .unset, .unset] [])) rfl (hb hby at_116)
            refine own_st (T' := T32) (F' := (mkF m 119 #[.val (.long x0), .second, .val (.long x1), .second, .val (.int x2), .val (.ref b1), .val (.int (1 : Int32)), .val (.long x0), .second, .val (.int (x2 &&& (3 : Int32))), .unset, .unset] [(.ref w_TRUE)])) st32 ?_
            refine own_st (T' := T32) (F' := (mkF m 125 #[.val (.long x0), .second, .val (.long x1), .second, .val (.int x2), .val (.ref b1), .val (.int (1 : Int32)), .val (.long x0), .second, .val (.int (x2 &&& (3 : Int32))), .unset, .unset] [(.ref w_TRUE)])) (fun t k => XS.goto X32.here hx rfl (pc0 := 119) (pc' := 125) rfl (hb hby at_119) (by decide) (by decide) k) ?_
            refine own_st (T' := T32) (F' := (mkF m 127 #[.val (.long x0), .second, .val (.long x1), .second, .val (.int x2), .val (.ref b1), .val (.int (1 : Int32)), .val (.long x0), .second, .val (.int (x2 &&& (3 : Int32))), .val (.ref w_TRUE), .unset] [])) (fun t k => XS.astore X32.here hx rfl (hb hby at_125) rfl rfl (l' := #[.val (.long x0), .second, .val (.long x1), .second, .val (.int x2), .val (.ref b1), .val (.int (1 : Int32)), .val (.long x0), .second, .val (.int (x2 &&& (3 : Int32))), .val (.ref w_TRUE), .unset]) rfl k) ?_
            refine own_st (T' := T32) (F' := (mkF m 128 #[.val (.long x0), .second, .val (.long x1), .second, .val (.int x2), .val (.ref b1), .val (.int (1 : Int32)), .val (.long x0), .second, .val (.int (x2 &&& (3 : Int32))), .val (.ref w_TRUE), .unset] [(.int (0 : Int32))])) (fun t k => XS.iconst X32.here hx rfl (hb hby at_127) k) ?_
            refine own_st (T' := T32) (F' := (mkF m 130 #[.val (.long x0), .second, .val (.long x1), .second, .val (.int x2), .val (.ref b1), .val (.int (1 : Int32)), .val (.long x0), .second, .val (.int (x2 &&& (3 : Int32))), .val (.ref w_TRUE), .val (.int (0 : Int32))] [])) (fun t k => XS.istore X32.here hx rfl (hb hby at_128) rfl (l' := #[.val (.long x0), .second, .val (.long x1), .second, .val (.int x2), .val (.ref b1), .val (.int (1 : Int32)), .val (.long x0), .second, .val (.int (x2 &&& (3 : Int32))), .val (.ref w_TRUE), .val (.int (0 : Int32))]) rfl k) ?_
            refine own_st (T' := T32) (F' := (mkF m 132 #[.val (.long x0), .second, .val (.long x1), .second, .val (.int x2), .val (.ref b1), .val (.int (1 : Int32)), .val (.long x0), .second, .val (.int (x2 &&& (3 : Int32))), .val (.ref w_TRUE), .val (.int (0 : Int32))] [(.ref b1)])) (fun t k => XS.aload X32.here hx rfl (hb hby at_130) rfl rfl k) ?_
            refine own_st (T' := T32) (F' := (mkF m 134 #[.val (.long x0), .second, .val (.long x1), .second, .val (.int x2), .val (.ref b1), .val (.int (1 : Int32)), .val (.long x0), .second, .val (.int (x2 &&& (3 : Int32))), .val (.ref w_TRUE), .val (.int (0 : Int32))] [(.ref w_TRUE), (.ref b1)])) (fun t k => XS.aload X32.here hx rfl (hb hby at_132) rfl rfl k) ?_
            obtain ⟨cq33, kq33, q33a, q33b, q33c⟩ := isOf hZ e32 E_b1
            obtain ⟨v33, _, ⟨T33, L33, k33, n33⟩, -, X33, ⟨Lc33, hQ33, l33, y33, z33⟩, st33⟩ := X32.virtualBack hx (y := (⟨"com/example/sundew/sundew/value/IntegerValue", "equals", "(Ljava/lang/Object;)Z"⟩ : MethodName)) (z := (⟨"com/example/sundew/sundew/value/IntegerValue", "equals", "(Ljava/lang/Object;)Z"⟩ : MethodName)) hown (mvT hZ (hw _ (List.mem_of_getElem? (i := 16) rfl))) (mvT hZ (hw _ (List.mem_of_getElem? (i := 17) rfl))) (notFace_of_selects (args := #[]) (mvT hZ (hw _ (List.mem_of_getElem? (i := 19) rfl)))) (mvT hZ (hw _ (List.mem_of_getElem? (i := 19) rfl))) (mvT hZ (hw _ (List.mem_of_getElem? (i := 18) rfl))) (by decide) (backOf (W := 0) (rmE_B l Z a0 CX [] b1 w_TRUE T2.heap O (E_TRUE.ext O)) hZ (hw _ (List.mem_of_getElem? (i := 20) rfl)) (hw _ (List.mem_of_getElem? (i := 2) rfl)) (by decide) (by decide)) q33a q33c (g := (mkF m 134 #[.val (.long x0), .second, .val (.long x1), .second, .val (.int x2), .val (.ref b1), .val (.int (1 : Int32)), .val (.long x0), .second, .val (.int (x2 &&& (3 : Int32))), .val (.ref w_TRUE), .val (.int (0 : Int32))] [(.ref w_TRUE), (.ref b1)])) rfl (by rw [hml]; rfl) (Steps.refl _) (argsL := [(.ref w_TRUE)]) (rest := []) (lenOf pd_2 rfl) rfl (by show 2 * 0 + _ ≤ _; exact Nat.le_of_eq rfl) (hb hby at_134) (fun _ _ => ⟨rfl, e32, (by decide : 1 + 0 ≤ _), (by decide : 1 + 0 ≤ _)⟩)
            dsimp only [Pt.U, Pt.locs, Pt.cells, Pt.slots] at X33 l33 y33 z33 st33 hQ33
            subst l33 y33 z33
            obtain ⟨rfl, N33q, e33⟩ := hQ33
            have N := Fr.app N N33q
            refine own_tr (T' := T33) (F' := (mkF m 137 #[.val (.long x0), .second, .val (.long x1), .second, .val (.int x2), .val (.ref b1), .val (.int (1 : Int32)), .val (.long x0), .second, .val (.int (x2 &&& (3 : Int32))), .val (.ref w_TRUE), .val (.int (0 : Int32))] [(.int (0 : Int32))])) st33 ?_
            refine own_st (T' := T33) (F' := (mkF m 139 #[.val (.long x0), .second, .val (.long x1), .second, .val (.int x2), .val (.ref b1), .val (.int (1 : Int32)), .val (.long x0), .second, .val (.int (x2 &&& (3 : Int32))), .val (.ref w_TRUE), .val (.int (0 : Int32))] [(.int (0 : Int32)), (.int (0 : Int32))])) (fun t k => XS.iload X33.here hx rfl (hb hby at_137) rfl k) ?_
            refine own_st (T' := T33) (F' := (mkF m 142 #[.val (.long x0), .second, .val (.long x1), .second, .val (.int x2), .val (.ref b1), .val (.int (1 : Int32)), .val (.long x0), .second, .val (.int (x2 &&& (3 : Int32))), .val (.ref w_TRUE), .val (.int (0 : Int32))] [])) (fun t k => XS.icmpNo X33.here hx rfl (hb hby at_139) rfl (teq rfl).2 k) ?_
            refine own_st (T' := T33) (F' := (mkF m 143 #[.val (.long x0), .second, .val (.long x1), .second, .val (.int x2), .val (.ref b1), .val (.int (1 : Int32)), .val (.long x0), .second, .val (.int (x2 &&& (3 : Int32))), .val (.ref w_TRUE), .val (.int (0 : Int32))] [(.int (1 : Int32))])) (fun t k => XS.iconst X33.here hx rfl (hb hby at_142) k) ?_
            refine own_st (T' := T33) (F' := (mkF m 147 #[.val (.long x0), .second, .val (.long x1), .second, .val (.int x2), .val (.ref b1), .val (.int (1 : Int32)), .val (.long x0), .second, .val (.int (x2 &&& (3 : Int32))), .val (.ref w_TRUE), .val (.int (0 : Int32))] [(.int (1 : Int32))])) (fun t k => XS.goto X33.here hx rfl (pc0 := 143) (pc' := 147) rfl (hb hby at_143) (by decide) (by decide) k) ?_
            exact own_retN X33 hx (t := .boolean) Bd.returns (by simp) (by decide) (hb hby at_147) hlk (by show Q0 Z _ T33.heap _; rw [e33]; exact ⟨rfl, N⟩) (by decide) (by decide)
set_option maxRecDepth 65536 in
set_option maxHeartbeats 40000000 in
theorem comes_1 {Post : Tables → Env → Array Value → State → Outcome → State → Prop} (hpost : ∀ tb e args s v u, (limb_1_1.after args s (.returned v) u = true ∧ limb_1_2.after args s (.returned v) u = true ∧ True) → FrameEnd s (.returned v) u (Jvm.fieldLocs frame_1_writes args s ++ Jvm.arrayLocs frame_1_arrays args s ++ Jvm.staticLocs frame_1_statics s) 16 128 → Post tb e args s (.returned v) u) :
    ArmFor flags0 classFile x code maxLocals ret World_1 tables_1 room_1 Calls_1 rest_1 Pre_1 Post := by
  intro l hfl _ _ p e ha hc hk s m args below hf hA hF happ hP
  obtain ⟨hcalls, hrest, hpre⟩ := hP
  obtain ⟨-, -, -, hnamed, -, -, -, hat⟩ := (Spec.applies_iff hf).mp happ
  obtain ⟨hg, hn⟩ := and_e (Cond.before_iff.mp (show (Jvm.Cond.and given_1 narrow_1).before args s = true from hpre))
  obtain ⟨g0, g1⟩ := and_e hg
  obtain ⟨g2, g3⟩ := and_e g1
  obtain ⟨g4, g5⟩ := and_e g3
  obtain ⟨w0, w1, w2, rfl⟩ : ∃ w0 w1 w2 : Value, args = #[w0, w1, w2] := by
    have hs : args.size = 3 := by simpa [Cond.value, given_1] using g0
    obtain ⟨L⟩ := args
    match L, hs with
    | [w0, w1, w2], _ => exact ⟨w0, w1, w2, rfl⟩
  have hw := fun d (hd : d ∈ tables_1) => atoms_spec (ws := Jvm.Cond.code x code maxLocals ret :: tables_1) hat d (List.mem_cons_of_mem _ hd)
  have hfit : Fit s := fun {y c} hc i hi => by
    obtain ⟨ha, rfl⟩ := Array.getElem?_eq_some_iff.mp hc
    have q := List.all_eq_true.mp ((Array.all_eq_true_iff_forall_mem.mp hF) _ (Array.getElem_mem ha)) i (List.mem_range.mpr hi)
    simpa [Array.getElem?_eq_getElem hi] using q
  obtain ⟨i0, ei0⟩ := isL_v g2
  obtain rfl : w0 = (.long i0) := Option.some.inj ei0
  obtain ⟨i1, ei1⟩ := isL_v g4
  obtain rfl : w1 = (.long i1) := Option.some.inj ei1
  obtain ⟨i2, ei2⟩ := is_v g5
  obtain rfl : w2 = (.int i2) := Option.some.inj ei2
  obtain ⟨n0a, n0b⟩ := and_e hn
  obtain ⟨w_FALSE, v_FALSE⟩ := exa_v n0a
  have E_FALSE := Exa.start v_FALSE n0a
  have S_FALSE := Sta.start v_FALSE (Or.inr ⟨(hw _ (List.mem_of_getElem? (i := 24) rfl)), (hw _ (List.mem_of_getElem? (i := 25) rfl))⟩)
  obtain ⟨w_TRUE, v_TRUE⟩ := exa_v n0b
  have E_TRUE := Exa.start v_TRUE n0b
  have S_TRUE := Sta.start v_TRUE (Or.inr ⟨(hw _ (List.mem_of_getElem? (i := 24) rfl)), (hw _ (List.mem_of_getElem? (i := 30) rfl))⟩)
  obtain ⟨hsets, hown0⟩ := atoms_of _ (rest_1_c_eq ▸ (show rest_1_c.before _ s = true from hrest))
  have r2 := Cond.before_iff.mp (hsets _ (List.mem_of_getElem? (i := 2) rfl))
  have r4 := Cond.before_iff.mp (hsets _ (List.mem_of_getElem? (i := 4) rfl))
  have r5 := Cond.before_iff.mp (hsets _ (List.mem_of_getElem? (i := 5) rfl))
  obtain ⟨w_lc, v_lc⟩ := arr_v r2
  have S_lc := Sta.start v_lc (Or.inl (hsets _ (List.mem_of_getElem? (i := 1) rfl)))
  obtain ⟨cl_lc, A_lc⟩ := Arr.start v_lc r2
  obtain ⟨z1, z2⟩ := own_len (own_eq_int r4) v_lc A_lc.1
  have B_lc : Bxs s w_lc cl_lc "java/lang/Long" "J" 256 (fun j => .long (j - 128).toInt64) := Bxs.start (fun idx => v_lc) A_lc z1 z2 (by decide) r5 (fun X j hj h => eqv_l (i2l_at (own_sub_at (idx_at hj) rfl)) h)
  have CX : Ctx s _ w_FALSE w_TRUE w_lc cl_lc := ⟨hw, S_FALSE, E_FALSE, S_TRUE, E_TRUE, S_lc, B_lc, trivial⟩
  obtain ⟨n, o, h1, h2, h3, _, L, rfl, ⟨rfl, N⟩, hq⟩ := rm0 l s _ CX tables_1 i0 i1 i2 s.heap (own_ext_refl _)  p e ha hc hk s m _ below hf ((Spec.applies_iff_loose hf).mp happ).1 ⟨rfl, State.Warmed39.refl s, rfl⟩ trivial
  refine ⟨n, _, h1, h2, h3, hpost _ _ _ _ _ _ ⟨Cond.after_iff.mpr rfl, Cond.after_iff.mpr (eq_i res_at (Term.int_eval (1)) rfl), trivial⟩ ⟨hq.1, hq.2.1, (hq.2.2.sift fun y hy => Or.inr (N y hy)).mono (by decide) (by decide)⟩⟩
theorem main_1_1 : Claimed_1_1 := comes_1 fun _ _ _ _ _ _ h hF => ⟨h.1, hF⟩
theorem main_1_2 : Claimed_1_2 := comes_1 fun _ _ _ _ _ _ h hF => ⟨h.2.1, hF⟩
end Jvm.Pilot.@@N@@
namespace Jvm.Pilot.@@N@@
open Jvm Jvm.ClassFile Sem Op Lib Jvm.Free Jvm.Stand Jvm.Pilot.@@N@@.Jvm.D
/-! MADE BY PROGRAM (witnessworld.py) out of the Statement's table words and the real class files: 20 classes; the members and pool entries that the words name. The judged class is class 1, her method 1. -/
namespace start1
open Jvm.ClassFile
def u (s : String) : CpInfo := .utf8 (stringToUtf16 s)
/-- a pool by its gaps: so many unusable entries, then the entry; so many at the end -/
def gap : Nat → List CpInfo → List CpInfo
  | 0, r => r
  | n + 1, r => .unusable :: gap n r
def poolList (es : List (Nat × CpInfo)) (last : Nat) : List CpInfo := es.foldr (fun e r => gap e.1 (e.2 :: r)) (gap last [])
def pool (es : List (Nat × CpInfo)) (last : Nat) : Array CpInfo := ⟨poolList es last⟩
def fileOf (pool : Array CpInfo) (this : Nat) (attrs : Array Attribute := #[]) (ms : Array MethodInfo := #[]) (fl : Nat := 33) (sup : Nat := 0) (ifs : Array Nat := #[]) (fds : Array FieldInfo := #[]) : ClassFile where
  minorVersion := 0
  majorVersion := 65
  constantPool := pool
  accessFlags := fl
  thisClass := this
  superClass := sup
  interfaces := ifs
  fields := fds
  methods := ms
  attributes := attrs
def plain (name : String) (sup : Option ClassId) : Class where
  name := name
  kind := .ordinary
  loader := none
  accessFlags := 33
  super := sup
  interfaces := #[]
  cf := none
  fields := #[]
  methods := #[]
  instanceTypes := #[]
  staticTypes := #[]
  resolved := #[]
  callSites := []
  init := .initialized
  statics := none
  mirror := none

def pool0 : Array CpInfo := pool [(5, u "<init>"), (0, u "()V"), (1, .class_ 10), (1, u "java/lang/Object")] 113

def k0c0 : Code := { maxStack := 0, maxLocals := 1, code := object_method_1_code, exceptionTable := #[], attributes := #[] }
def k0m0 : Method := { name := "<init>", desc := "()V", sig := { parameters := [], returnType := none }, accessFlags := 1, code := some k0c0 }
/-- java/lang/Object -/
def k0 : Class := { plain "java/lang/Object" none with
  accessFlags := 33
  interfaces := #[]
  cf := some (fileOf pool0 8 #[] #[{ accessFlags := 1, nameIndex := 5, descriptorIndex := 6, attributes := #[] }] 33 0 #[] #[])
  fields := #[]
  methods := #[k0m0]
  instanceTypes := #[]
  staticTypes := #[]
  resolved := Array.replicate 124 none
  statics := none }

def pool1 : Array CpInfo := pool [(2, .class_ 4), (1, u "java/lang/Object"), (0, u "<init>"), (0, u "()V"), (0, .class_ 8), (0, u "com/example/sundew/sundew/value/IntegerValue"), (0, .methodref 7 10), (0, .nameAndType 5 11), (0, u "(J)V"), (0, .methodref 13 14), (0, .class_ 15), (0, .nameAndType 16 17), (0, u "java/lang/Long"), (0, u "valueOf"), (0, u "(J)Ljava/lang/Long;"), (0, .fieldref 19 20), (0, .class_ 21), (0, .nameAndType 22 23), (0, u "com/example/sundew/sundew/value/BooleanValue"), (0, u "TRUE"), (0, u "Lcom/example/sundew/sundew/value/BooleanValue;"), (0, .fieldref 19 25), (0, .nameAndType 26 23), (0, u "FALSE"), (0, .methodref 7 28), (0, .nameAndType 29 30), (0, u "equals"), (0, u "(Ljava/lang/Object;)Z"), (0, .class_ 32), (0, u "com/example/sundew/sundew/value/IntegerValueEqualsPinLaw"), (2, u "law"), (0, u "(JJI)Z")] 3

def k1m0 : Method := { name := "<init>", desc := "()V", sig := { parameters := [], returnType := none }, accessFlags := 1, code := none }
def k1c1 : Code := { maxStack := 4, maxLocals := 12, code := code, exceptionTable := #[], attributes := #[] }
def k1m1 : Method := { name := "law", desc := "(JJI)Z", sig := { parameters := [.long, .long, .int], returnType := some .boolean }, accessFlags := 9, code := some k1c1 }
/-- com/example/sundew/sundew/value/IntegerValueEqualsPinLaw -/
def k1 : Class := { plain "com/example/sundew/sundew/value/IntegerValueEqualsPinLaw" (some 0) with
  accessFlags := 49
  interfaces := #[]
  cf := some (fileOf pool1 31 #[] #[{ accessFlags := 1, nameIndex := 5, descriptorIndex := 6, attributes := #[] }, { accessFlags := 9, nameIndex := 35, descriptorIndex := 36, attributes := #[] }] 49 2 #[] #[])
  fields := #[]
  methods := #[k1m0, k1m1]
  instanceTypes := #[]
  staticTypes := #[]
  resolved := Array.replicate 40 none
  statics := none }

def pool2 : Array CpInfo := pool [(1, .methodref 2 3), (0, .class_ 4), (0, .nameAndType 5 6), (0, u "java/lang/Object"), (0, u "<init>"), (0, u "()V"), (0, .class_ 8), (0, u "java/lang/Record")] 13

def k2c0 : Code := { maxStack := 1, maxLocals := 1, code := jdk_30_method_1_code, exceptionTable := #[], attributes := #[] }
def k2m0 : Method := { name := "<init>", desc := "()V", sig := { parameters := [], returnType := none }, accessFlags := 4, code := some k2c0 }
/-- java/lang/Record -/
def k2 : Class := { plain "java/lang/Record" (some 0) with
  accessFlags := 1057
  interfaces := #[]
  cf := some (fileOf pool2 7 #[] #[{ accessFlags := 4, nameIndex := 5, descriptorIndex := 6, attributes := #[] }] 1057 2 #[] #[])
  fields := #[]
  methods := #[k2m0]
  instanceTypes := #[]
  staticTypes := #[]
  resolved := Array.replicate 22 none
  statics := none }

def pool3 : Array CpInfo := pool [(1, .class_ 2), (0, u "com/example/sundew/sundew/value/Value"), (0, .class_ 4), (0, u "java/lang/Object")] 11

/-- com/example/sundew/sundew/value/Value -/
def k3 : Class := { plain "com/example/sundew/sundew/value/Value" (some 0) with
  accessFlags := 1537
  interfaces := #[]
  cf := some (fileOf pool3 1 #[] #[] 1537 3 #[] #[])
  fields := #[]
  methods := #[]
  instanceTypes := #[]
  staticTypes := #[]
  resolved := Array.replicate 16 none
  statics := none }

def pool4 : Array CpInfo := pool [(1, .methodref 2 3), (0, .class_ 4), (0, .nameAndType 5 6), (0, u "java/lang/Record"), (0, u "<init>"), (0, u "()V"), (0, .fieldref 8 9), (0, .class_ 10), (0, .nameAndType 11 12), (0, u "com/example/sundew/sundew/value/IntegerValue"), (0, u "value"), (0, u "J"), (10, .class_ 24), (0, u "com/example/sundew/sundew/value/Value"), (0, u "(J)V"), (3, u "equals"), (0, u "(Ljava/lang/Object;)Z")] 7

def k4c0 : Code := { maxStack := 3, maxLocals := 3, code := prog_160_method_1_code, exceptionTable := #[], attributes := #[] }
def k4m0 : Method := { name := "<init>", desc := "(J)V", sig := { parameters := [.long], returnType := none }, accessFlags := 1, code := some k4c0 }
def k4c1 : Code := { maxStack := 4, maxLocals := 3, code := prog_160_method_2_code, exceptionTable := #[], attributes := #[] }
def k4m1 : Method := { name := "equals", desc := "(Ljava/lang/Object;)Z", sig := { parameters := [(.object "java/lang/Object")], returnType := some .boolean }, accessFlags := 1, code := some k4c1 }
/-- com/example/sundew/sundew/value/IntegerValue -/
def k4 : Class := { plain "com/example/sundew/sundew/value/IntegerValue" (some 2) with
  accessFlags := 49
  interfaces := #[3]
  cf := some (fileOf pool4 8 #[] #[{ accessFlags := 1, nameIndex := 5, descriptorIndex := 25, attributes := #[] }, { accessFlags := 1, nameIndex := 29, descriptorIndex := 30, attributes := #[] }] 49 2 #[23] #[{ accessFlags := 18, nameIndex := 11, descriptorIndex := 12, attributes := #[] }])
  fields := #[{ name := "value", type := .long, accessFlags := 18, slot := 0, constantValue := 0 }]
  methods := #[k4m0, k4m1]
  instanceTypes := #[.long]
  staticTypes := #[]
  resolved := Array.replicate 38 none
  statics := none }

def pool5 : Array CpInfo := pool [(1, .class_ 2), (0, u "java/lang/constant/Constable"), (0, .class_ 4), (0, u "java/lang/Object")] 6

/-- java/lang/constant/Constable -/
def k5 : Class := { plain "java/lang/constant/Constable" (some 0) with
  accessFlags := 1537
  interfaces := #[]
  cf := some (fileOf pool5 1 #[] #[] 1537 3 #[] #[])
  fields := #[]
  methods := #[]
  instanceTypes := #[]
  staticTypes := #[]
  resolved := Array.replicate 11 none
  statics := none }

def pool6 : Array CpInfo := pool [(1, .class_ 2), (0, u "java/lang/Comparable"), (0, .class_ 4), (0, u "java/lang/Object")] 7

/-- java/lang/Comparable -/
def k6 : Class := { plain "java/lang/Comparable" (some 0) with
  accessFlags := 1537
  interfaces := #[]
  cf := some (fileOf pool6 1 #[] #[] 1537 3 #[] #[])
  fields := #[]
  methods := #[]
  instanceTypes := #[]
  staticTypes := #[]
  resolved := Array.replicate 12 none
  statics := none }

def pool7 : Array CpInfo := pool [(1, .class_ 2), (0, u "java/io/Serializable"), (0, .class_ 4), (0, u "java/lang/Object")] 2

/-- java/io/Serializable -/
def k7 : Class := { plain "java/io/Serializable" (some 0) with
  accessFlags := 1537
  interfaces := #[]
  cf := some (fileOf pool7 1 #[] #[] 1537 3 #[] #[])
  fields := #[]
  methods := #[]
  instanceTypes := #[]
  staticTypes := #[]
  resolved := Array.replicate 7 none
  statics := none }

def pool8 : Array CpInfo := pool [(2, .class_ 4), (1, u "java/lang/Enum"), (0, u "name"), (0, u "Ljava/lang/String;"), (2, u "ordinal"), (0, u "I"), (1, .class_ 14), (1, u "java/lang/Object"), (4, u "hash"), (86, .class_ 108), (1, u "java/lang/Enum$EnumDesc"), (2, .class_ 112), (0, u "java/lang/constant/Constable"), (0, .class_ 114), (0, u "java/lang/Comparable"), (0, .class_ 116), (0, u "java/io/Serializable")] 87

/-- java/lang/Enum -/
def k8 : Class := { plain "java/lang/Enum" (some 0) with
  accessFlags := 1057
  interfaces := #[5, 6, 7]
  cf := some (fileOf pool8 2 #[.nestMembers #[106]] #[] 1057 12 #[111, 113, 115] #[{ accessFlags := 18, nameIndex := 5, descriptorIndex := 6, attributes := #[] }, { accessFlags := 18, nameIndex := 9, descriptorIndex := 10, attributes := #[] }, { accessFlags := 2, nameIndex := 19, descriptorIndex := 10, attributes := #[] }])
  fields := #[{ name := "name", type := (.object "java/lang/String"), accessFlags := 18, slot := 0, constantValue := 0 }, { name := "ordinal", type := .int, accessFlags := 18, slot := 1, constantValue := 0 }, { name := "hash", type := .int, accessFlags := 2, slot := 2, constantValue := 0 }]
  methods := #[]
  instanceTypes := #[(.object "java/lang/String"), .int, .int]
  staticTypes := #[]
  resolved := Array.replicate 204 none
  statics := none }

def pool9 : Array CpInfo := pool [(1, .class_ 2), (0, u "com/example/sundew/sundew/value/BooleanValue"), (2, u "FALSE"), (0, u "Lcom/example/sundew/sundew/value/BooleanValue;"), (2, u "TRUE"), (2, u "$VALUES"), (0, u "[Lcom/example/sundew/sundew/value/BooleanValue;"), (6, .class_ 22), (1, u "java/lang/Enum"), (13, .class_ 37), (0, u "com/example/sundew/sundew/value/Value")] 11

/-- com/example/sundew/sundew/value/BooleanValue -/
def k9 : Class := { plain "com/example/sundew/sundew/value/BooleanValue" (some 8) with
  accessFlags := 16433
  interfaces := #[3]
  cf := some (fileOf pool9 1 #[] #[] 16433 20 #[36] #[{ accessFlags := 16409, nameIndex := 5, descriptorIndex := 6, attributes := #[] }, { accessFlags := 16409, nameIndex := 9, descriptorIndex := 6, attributes := #[] }, { accessFlags := 4122, nameIndex := 12, descriptorIndex := 13, attributes := #[] }])
  fields := #[{ name := "FALSE", type := (.object "com/example/sundew/sundew/value/BooleanValue"), accessFlags := 16409, slot := 0, constantValue := 0 }, { name := "TRUE", type := (.object "com/example/sundew/sundew/value/BooleanValue"), accessFlags := 16409, slot := 1, constantValue := 0 }, { name := "$VALUES", type := (.array (.object "com/example/sundew/sundew/value/BooleanValue")), accessFlags := 4122, slot := 2, constantValue := 0 }]
  methods := #[]
  instanceTypes := #[(.object "java/lang/String"), .int, .int]
  staticTypes := #[(.object "com/example/sundew/sundew/value/BooleanValue"), (.object "com/example/sundew/sundew/value/BooleanValue"), (.array (.object "com/example/sundew/sundew/value/BooleanValue"))]
  resolved := Array.replicate 49 none
  statics := some 0 }

def pool10 : Array CpInfo := pool [(1, .methodref 2 3), (0, .class_ 4), (0, .nameAndType 5 6), (0, u "java/lang/Object"), (0, u "<init>"), (0, u "()V"), (1, .class_ 10), (1, u "java/lang/Number"), (2, .class_ 14), (0, u "java/io/Serializable"), (0, u "serialVersionUID"), (0, u "J")] 20

def k10c0 : Code := { maxStack := 1, maxLocals := 1, code := jdk_18_method_1_code, exceptionTable := #[], attributes := #[] }
def k10m0 : Method := { name := "<init>", desc := "()V", sig := { parameters := [], returnType := none }, accessFlags := 1, code := some k10c0 }
/-- java/lang/Number -/
def k10 : Class := { plain "java/lang/Number" (some 0) with
  accessFlags := 1057
  interfaces := #[7]
  cf := some (fileOf pool10 8 #[] #[{ accessFlags := 1, nameIndex := 5, descriptorIndex := 6, attributes := #[] }] 1057 2 #[13] #[{ accessFlags := 26, nameIndex := 15, descriptorIndex := 16, attributes := #[] }])
  fields := #[{ name := "serialVersionUID", type := .long, accessFlags := 26, slot := 0, constantValue := 0 }]
  methods := #[k10m0]
  instanceTypes := #[]
  staticTypes := #[.long]
  resolved := Array.replicate 37 none
  statics := none }

def pool11 : Array CpInfo := pool [(1, .class_ 2), (0, u "java/lang/constant/ConstantDesc"), (0, .class_ 4), (0, u "java/lang/Object")] 32

/-- java/lang/constant/ConstantDesc -/
def k11 : Class := { plain "java/lang/constant/ConstantDesc" (some 0) with
  accessFlags := 1537
  interfaces := #[]
  cf := some (fileOf pool11 1 #[] #[] 1537 3 #[] #[])
  fields := #[]
  methods := #[]
  instanceTypes := #[]
  staticTypes := #[]
  resolved := Array.replicate 37 none
  statics := none }

def pool12 : Array CpInfo := pool [(1, .class_ 2), (0, u "java/lang/Long"), (55, .nameAndType 59 60), (0, u "<init>"), (0, u "()V"), (24, u "valueOf"), (143, u "(J)Ljava/lang/Long;"), (0, .long 18446744073709551488), (1, .long 127), (1, .fieldref 235 236), (0, .class_ 237), (0, .nameAndType 238 239), (0, u "java/lang/Long$LongCache"), (0, u "cache"), (0, u "[Ljava/lang/Long;"), (0, .methodref 1 241), (0, .nameAndType 59 242), (0, u "(J)V"), (27, .methodref 271 58), (0, .class_ 272), (0, u "java/lang/Number"), (0, .fieldref 1 274), (0, .nameAndType 275 276), (0, u "value"), (0, u "J"), (84, u "TYPE"), (0, u "Ljava/lang/Class;"), (0, .class_ 364), (0, u "java/lang/Comparable"), (0, .class_ 366), (0, u "java/lang/constant/Constable"), (0, .class_ 368), (0, u "java/lang/constant/ConstantDesc"), (0, u "MIN_VALUE"), (1, u "MAX_VALUE"), (4, u "SIZE"), (0, u "I"), (1, u "BYTES"), (1, u "serialVersionUID")] 142

def k12c0 : Code := { maxStack := 4, maxLocals := 3, code := jdk_35_method_24_code, exceptionTable := #[], attributes := #[] }
def k12m0 : Method := { name := "valueOf", desc := "(J)Ljava/lang/Long;", sig := { parameters := [.long], returnType := some (.object "java/lang/Long") }, accessFlags := 9, code := some k12c0 }
def k12c1 : Code := { maxStack := 3, maxLocals := 3, code := jdk_35_method_26_code, exceptionTable := #[], attributes := #[] }
def k12m1 : Method := { name := "<init>", desc := "(J)V", sig := { parameters := [.long], returnType := none }, accessFlags := 1, code := some k12c1 }
/-- java/lang/Long -/
def k12 : Class := { plain "java/lang/Long" (some 10) with
  accessFlags := 49
  interfaces := #[6, 5, 11]
  cf := some (fileOf pool12 1 #[.nestMembers #[235]] #[{ accessFlags := 9, nameIndex := 85, descriptorIndex := 229, attributes := #[] }, { accessFlags := 1, nameIndex := 59, descriptorIndex := 242, attributes := #[] }] 49 271 #[363, 365, 367] #[{ accessFlags := 25, nameIndex := 369, descriptorIndex := 276, attributes := #[] }, { accessFlags := 25, nameIndex := 371, descriptorIndex := 276, attributes := #[] }, { accessFlags := 25, nameIndex := 361, descriptorIndex := 362, attributes := #[] }, { accessFlags := 18, nameIndex := 275, descriptorIndex := 276, attributes := #[] }, { accessFlags := 25, nameIndex := 376, descriptorIndex := 377, attributes := #[] }, { accessFlags := 25, nameIndex := 379, descriptorIndex := 377, attributes := #[] }, { accessFlags := 26, nameIndex := 381, descriptorIndex := 276, attributes := #[] }])
  fields := #[{ name := "MIN_VALUE", type := .long, accessFlags := 25, slot := 0, constantValue := 0 }, { name := "MAX_VALUE", type := .long, accessFlags := 25, slot := 1, constantValue := 0 }, { name := "TYPE", type := (.object "java/lang/Class"), accessFlags := 25, slot := 2, constantValue := 0 }, { name := "value", type := .long, accessFlags := 18, slot := 0, constantValue := 0 }, { name := "SIZE", type := .int, accessFlags := 25, slot := 3, constantValue := 0 }, { name := "BYTES", type := .int, accessFlags := 25, slot := 4, constantValue := 0 }, { name := "serialVersionUID", type := .long, accessFlags := 26, slot := 5, constantValue := 0 }]
  methods := #[k12m0, k12m1]
  instanceTypes := #[.long]
  staticTypes := #[.long, .long, (.object "java/lang/Class"), .int, .int, .long]
  resolved := Array.replicate 524 none
  statics := none }

def pool13 : Array CpInfo := pool [(2, .class_ 4), (1, u "java/lang/Object"), (0, u "<init>"), (0, u "()V"), (0, .class_ 8), (0, u "java/lang/Long"), (7, .class_ 18), (1, u "java/lang/Long$LongCache"), (0, u "$assertionsDisabled"), (0, u "Z"), (8, u "archivedCache"), (0, u "[Ljava/lang/Long;"), (7, u "cache")] 24

def k13m0 : Method := { name := "<init>", desc := "()V", sig := { parameters := [], returnType := none }, accessFlags := 2, code := none }
/-- java/lang/Long$LongCache -/
def k13 : Class := { plain "java/lang/Long$LongCache" (some 0) with
  accessFlags := 48
  interfaces := #[]
  cf := some (fileOf pool13 16 #[.nestHost 7] #[{ accessFlags := 2, nameIndex := 5, descriptorIndex := 6, attributes := #[] }] 48 2 #[] #[{ accessFlags := 24, nameIndex := 38, descriptorIndex := 30, attributes := #[] }, { accessFlags := 8, nameIndex := 29, descriptorIndex := 30, attributes := #[] }, { accessFlags := 4120, nameIndex := 19, descriptorIndex := 20, attributes := #[] }])
  fields := #[{ name := "cache", type := (.array (.object "java/lang/Long")), accessFlags := 24, slot := 0, constantValue := 0 }, { name := "archivedCache", type := (.array (.object "java/lang/Long")), accessFlags := 8, slot := 1, constantValue := 0 }, { name := "$assertionsDisabled", type := .boolean, accessFlags := 4120, slot := 2, constantValue := 0 }]
  methods := #[k13m0]
  instanceTypes := #[]
  staticTypes := #[(.array (.object "java/lang/Long")), (.array (.object "java/lang/Long")), .boolean]
  resolved := Array.replicate 63 none
  statics := some 1 }

def pool14 : Array CpInfo := pool [(1, u "java/lang/Cloneable"), (0, .class_ 1), (0, u "java/lang/Object"), (0, .class_ 3)] 3

/-- java/lang/Cloneable -/
def k14 : Class := { plain "java/lang/Cloneable" (some 0) with
  accessFlags := 1537
  interfaces := #[]
  cf := some (fileOf pool14 2 #[] #[] 1537 4 #[] #[])
  fields := #[]
  methods := #[]
  instanceTypes := #[]
  staticTypes := #[]
  resolved := Array.replicate 8 none
  statics := none }

/-- the primitive byte -/
def k15 : Class := { plain "byte" none with kind := .primitive 'B', accessFlags := 0x411 }
/-- [B -/
def k16 : Class := { plain "[B" (some 0) with kind := .array 15 .byte, interfaces := #[14, 7], accessFlags := 1041 }

/-- the primitive int -/
def k17 : Class := { plain "int" none with kind := .primitive 'I', accessFlags := 0x411 }
/-- [I -/
def k18 : Class := { plain "[I" (some 0) with kind := .array 17 .int, interfaces := #[14, 7], accessFlags := 1041 }

/-- [Ljava/lang/Long; -/
def k19 : Class := { plain "[Ljava/lang/Long;" (some 0) with kind := .array 12 (.object "java/lang/Long"), interfaces := #[14, 7], accessFlags := 1041 }

def heap : Heap := #[{ cls := 9, slots := #[.ref 259, .ref 260, .null], vm := .statics 9 },
  { cls := 13, slots := #[.ref 2, .null, .int 0], vm := .statics 13 },
  { cls := 19, slots := #[.ref 3, .ref 4, .ref 5, .ref 6, .ref 7, .ref 8, .ref 9, .ref 10, .ref 11, .ref 12, .ref 13, .ref 14, .ref 15, .ref 16, .ref 17, .ref 18, .ref 19, .ref 20, .ref 21, .ref 22, .ref 23, .ref 24, .ref 25, .ref 26, .ref 27, .ref 28, .ref 29, .ref 30, .ref 31, .ref 32, .ref 33, .ref 34, .ref 35, .ref 36, .ref 37, .ref 38, .ref 39, .ref 40, .ref 41, .ref 42, .ref 43, .ref 44, .ref 45, .ref 46, .ref 47, .ref 48, .ref 49, .ref 50, .ref 51, .ref 52, .ref 53, .ref 54, .ref 55, .ref 56, .ref 57, .ref 58, .ref 59, .ref 60, .ref 61, .ref 62, .ref 63, .ref 64, .ref 65, .ref 66, .ref 67, .ref 68, .ref 69, .ref 70, .ref 71, .ref 72, .ref 73, .ref 74, .ref 75, .ref 76, .ref 77, .ref 78, .ref 79, .ref 80, .ref 81, .ref 82, .ref 83, .ref 84, .ref 85, .ref 86, .ref 87, .ref 88, .ref 89, .ref 90, .ref 91, .ref 92, .ref 93, .ref 94, .ref 95, .ref 96, .ref 97, .ref 98, .ref 99, .ref 100, .ref 101, .ref 102, .ref 103, .ref 104, .ref 105, .ref 106, .ref 107, .ref 108, .ref 109, .ref 110, .ref 111, .ref 112, .ref 113, .ref 114, .ref 115, .ref 116, .ref 117, .ref 118, .ref 119, .ref 120, .ref 121, .ref 122, .ref 123, .ref 124, .ref 125, .ref 126, .ref 127, .ref 128, .ref 129, .ref 130, .ref 131, .ref 132, .ref 133, .ref 134, .ref 135, .ref 136, .ref 137, .ref 138, .ref 139, .ref 140, .ref 141, .ref 142, .ref 143, .ref 144, .ref 145, .ref 146, .ref 147, .ref 148, .ref 149, .ref 150, .ref 151, .ref 152, .ref 153, .ref 154, .ref 155, .ref 156, .ref 157, .ref 158, .ref 159, .ref 160, .ref 161, .ref 162, .ref 163, .ref 164, .ref 165, .ref 166, .ref 167, .ref 168, .ref 169, .ref 170, .ref 171, .ref 172, .ref 173, .ref 174, .ref 175, .ref 176, .ref 177, .ref 178, .ref 179, .ref 180, .ref 181, .ref 182, .ref 183, .ref 184, .ref 185, .ref 186, .ref 187, .ref 188, .ref 189, .ref 190, .ref 191, .ref 192, .ref 193, .ref 194, .ref 195, .ref 196, .ref 197, .ref 198, .ref 199, .ref 200, .ref 201, .ref 202, .ref 203, .ref 204, .ref 205, .ref 206, .ref 207, .ref 208, .ref 209, .ref 210, .ref 211, .ref 212, .ref 213, .ref 214, .ref 215, .ref 216, .ref 217, .ref 218, .ref 219, .ref 220, .ref 221, .ref 222, .ref 223, .ref 224, .ref 225, .ref 226, .ref 227, .ref 228, .ref 229, .ref 230, .ref 231, .ref 232, .ref 233, .ref 234, .ref 235, .ref 236, .ref 237, .ref 238, .ref 239, .ref 240, .ref 241, .ref 242, .ref 243, .ref 244, .ref 245, .ref 246, .ref 247, .ref 248, .ref 249, .ref 250, .ref 251, .ref 252, .ref 253, .ref 254, .ref 255, .ref 256, .ref 257, .ref 258], vm := .none },
  { cls := 12, slots := #[.long (-128)], vm := .none },
  { cls := 12, slots := #[.long (-127)], vm := .none },
  { cls := 12, slots := #[.long (-126)], vm := .none },
  { cls := 12, slots := #[.long (-125)], vm := .none },
  { cls := 12, slots := #[.long (-124)], vm := .none },
  { cls := 12, slots := #[.long (-123)], vm := .none },
  { cls := 12, slots := #[.long (-122)], vm := .none },
  { cls := 12, slots := #[.long (-121)], vm := .none },
  { cls := 12, slots := #[.long (-120)], vm := .none },
  { cls := 12, slots := #[.long (-119)], vm := .none },
  { cls := 12, slots := #[.long (-118)], vm := .none },
  { cls := 12, slots := #[.long (-117)], vm := .none },
  { cls := 12, slots := #[.long (-116)], vm := .none },
  { cls := 12, slots := #[.long (-115)], vm := .none },
  { cls := 12, slots := #[.long (-114)], vm := .none },
  { cls := 12, slots := #[.long (-113)], vm := .none },
  { cls := 12, slots := #[.long (-112)], vm := .none },
  { cls := 12, slots := #[.long (-111)], vm := .none },
  { cls := 12, slots := #[.long (-110)], vm := .none },
  { cls := 12, slots := #[.long (-109)], vm := .none },
  { cls := 12, slots := #[.long (-108)], vm := .none },
  { cls := 12, slots := #[.long (-107)], vm := .none },
  { cls := 12, slots := #[.long (-106)], vm := .none },
  { cls := 12, slots := #[.long (-105)], vm := .none },
  { cls := 12, slots := #[.long (-104)], vm := .none },
  { cls := 12, slots := #[.long (-103)], vm := .none },
  { cls := 12, slots := #[.long (-102)], vm := .none },
  { cls := 12, slots := #[.long (-101)], vm := .none },
  { cls := 12, slots := #[.long (-100)], vm := .none },
  { cls := 12, slots := #[.long (-99)], vm := .none },
  { cls := 12, slots := #[.long (-98)], vm := .none },
  { cls := 12, slots := #[.long (-97)], vm := .none },
  { cls := 12, slots := #[.long (-96)], vm := .none },
  { cls := 12, slots := #[.long (-95)], vm := .none },
  { cls := 12, slots := #[.long (-94)], vm := .none },
  { cls := 12, slots := #[.long (-93)], vm := .none },
  { cls := 12, slots := #[.long (-92)], vm := .none },
  { cls := 12, slots := #[.long (-91)], vm := .none },
  { cls := 12, slots := #[.long (-90)], vm := .none },
  { cls := 12, slots := #[.long (-89)], vm := .none },
  { cls := 12, slots := #[.long (-88)], vm := .none },
  { cls := 12, slots := #[.long (-87)], vm := .none },
  { cls := 12, slots := #[.long (-86)], vm := .none },
  { cls := 12, slots := #[.long (-85)], vm := .none },
  { cls := 12, slots := #[.long (-84)], vm := .none },
  { cls := 12, slots := #[.long (-83)], vm := .none },
  { cls := 12, slots := #[.long (-82)], vm := .none },
  { cls := 12, slots := #[.long (-81)], vm := .none },
  { cls := 12, slots := #[.long (-80)], vm := .none },
  { cls := 12, slots := #[.long (-79)], vm := .none },
  { cls := 12, slots := #[.long (-78)], vm := .none },
  { cls := 12, slots := #[.long (-77)], vm := .none },
  { cls := 12, slots := #[.long (-76)], vm := .none },
  { cls := 12, slots := #[.long (-75)], vm := .none },
  { cls := 12, slots := #[.long (-74)], vm := .none },
  { cls := 12, slots := #[.long (-73)], vm := .none },
  { cls := 12, slots := #[.long (-72)], vm := .none },
  { cls := 12, slots := #[.long (-71)], vm := .none },
  { cls := 12, slots := #[.long (-70)], vm := .none },
  { cls := 12, slots := #[.long (-69)], vm := .none },
  { cls := 12, slots := #[.long (-68)], vm := .none },
  { cls := 12, slots := #[.long (-67)], vm := .none },
  { cls := 12, slots := #[.long (-66)], vm := .none },
  { cls := 12, slots := #[.long (-65)], vm := .none },
  { cls := 12, slots := #[.long (-64)], vm := .none },
  { cls := 12, slots := #[.long (-63)], vm := .none },
  { cls := 12, slots := #[.long (-62)], vm := .none },
  { cls := 12, slots := #[.long (-61)], vm := .none },
  { cls := 12, slots := #[.long (-60)], vm := .none },
  { cls := 12, slots := #[.long (-59)], vm := .none },
  { cls := 12, slots := #[.long (-58)], vm := .none },
  { cls := 12, slots := #[.long (-57)], vm := .none },
  { cls := 12, slots := #[.long (-56)], vm := .none },
  { cls := 12, slots := #[.long (-55)], vm := .none },
  { cls := 12, slots := #[.long (-54)], vm := .none },
  { cls := 12, slots := #[.long (-53)], vm := .none },
  { cls := 12, slots := #[.long (-52)], vm := .none },
  { cls := 12, slots := #[.long (-51)], vm := .none },
  { cls := 12, slots := #[.long (-50)], vm := .none },
  { cls := 12, slots := #[.long (-49)], vm := .none },
  { cls := 12, slots := #[.long (-48)], vm := .none },
  { cls := 12, slots := #[.long (-47)], vm := .none },
  { cls := 12, slots := #[.long (-46)], vm := .none },
  { cls := 12, slots := #[.long (-45)], vm := .none },
  { cls := 12, slots := #[.long (-44)], vm := .none },
  { cls := 12, slots := #[.long (-43)], vm := .none },
  { cls := 12, slots := #[.long (-42)], vm := .none },
  { cls := 12, slots := #[.long (-41)], vm := .none },
  { cls := 12, slots := #[.long (-40)], vm := .none },
  { cls := 12, slots := #[.long (-39)], vm := .none },
  { cls := 12, slots := #[.long (-38)], vm := .none },
  { cls := 12, slots := #[.long (-37)], vm := .none },
  { cls := 12, slots := #[.long (-36)], vm := .none },
  { cls := 12, slots := #[.long (-35)], vm := .none },
  { cls := 12, slots := #[.long (-34)], vm := .none },
  { cls := 12, slots := #[.long (-33)], vm := .none },
  { cls := 12, slots := #[.long (-32)], vm := .none },
  { cls := 12, slots := #[.long (-31)], vm := .none },
  { cls := 12, slots := #[.long (-30)], vm := .none },
  { cls := 12, slots := #[.long (-29)], vm := .none },
  { cls := 12, slots := #[.long (-28)], vm := .none },
  { cls := 12, slots := #[.long (-27)], vm := .none },
  { cls := 12, slots := #[.long (-26)], vm := .none },
  { cls := 12, slots := #[.long (-25)], vm := .none },
  { cls := 12, slots := #[.long (-24)], vm := .none },
  { cls := 12, slots := #[.long (-23)], vm := .none },
  { cls := 12, slots := #[.long (-22)], vm := .none },
  { cls := 12, slots := #[.long (-21)], vm := .none },
  { cls := 12, slots := #[.long (-20)], vm := .none },
  { cls := 12, slots := #[.long (-19)], vm := .none },
  { cls := 12, slots := #[.long (-18)], vm := .none },
  { cls := 12, slots := #[.long (-17)], vm := .none },
  { cls := 12, slots := #[.long (-16)], vm := .none },
  { cls := 12, slots := #[.long (-15)], vm := .none },
  { cls := 12, slots := #[.long (-14)], vm := .none },
  { cls := 12, slots := #[.long (-13)], vm := .none },
  { cls := 12, slots := #[.long (-12)], vm := .none },
  { cls := 12, slots := #[.long (-11)], vm := .none },
  { cls := 12, slots := #[.long (-10)], vm := .none },
  { cls := 12, slots := #[.long (-9)], vm := .none },
  { cls := 12, slots := #[.long (-8)], vm := .none },
  { cls := 12, slots := #[.long (-7)], vm := .none },
  { cls := 12, slots := #[.long (-6)], vm := .none },
  { cls := 12, slots := #[.long (-5)], vm := .none },
  { cls := 12, slots := #[.long (-4)], vm := .none },
  { cls := 12, slots := #[.long (-3)], vm := .none },
  { cls := 12, slots := #[.long (-2)], vm := .none },
  { cls := 12, slots := #[.long (-1)], vm := .none },
  { cls := 12, slots := #[.long 0], vm := .none },
  { cls := 12, slots := #[.long 1], vm := .none },
  { cls := 12, slots := #[.long 2], vm := .none },
  { cls := 12, slots := #[.long 3], vm := .none },
  { cls := 12, slots := #[.long 4], vm := .none },
  { cls := 12, slots := #[.long 5], vm := .none },
  { cls := 12, slots := #[.long 6], vm := .none },
  { cls := 12, slots := #[.long 7], vm := .none },
  { cls := 12, slots := #[.long 8], vm := .none },
  { cls := 12, slots := #[.long 9], vm := .none },
  { cls := 12, slots := #[.long 10], vm := .none },
  { cls := 12, slots := #[.long 11], vm := .none },
  { cls := 12, slots := #[.long 12], vm := .none },
  { cls := 12, slots := #[.long 13], vm := .none },
  { cls := 12, slots := #[.long 14], vm := .none },
  { cls := 12, slots := #[.long 15], vm := .none },
  { cls := 12, slots := #[.long 16], vm := .none },
  { cls := 12, slots := #[.long 17], vm := .none },
  { cls := 12, slots := #[.long 18], vm := .none },
  { cls := 12, slots := #[.long 19], vm := .none },
  { cls := 12, slots := #[.long 20], vm := .none },
  { cls := 12, slots := #[.long 21], vm := .none },
  { cls := 12, slots := #[.long 22], vm := .none },
  { cls := 12, slots := #[.long 23], vm := .none },
  { cls := 12, slots := #[.long 24], vm := .none },
  { cls := 12, slots := #[.long 25], vm := .none },
  { cls := 12, slots := #[.long 26], vm := .none },
  { cls := 12, slots := #[.long 27], vm := .none },
  { cls := 12, slots := #[.long 28], vm := .none },
  { cls := 12, slots := #[.long 29], vm := .none },
  { cls := 12, slots := #[.long 30], vm := .none },
  { cls := 12, slots := #[.long 31], vm := .none },
  { cls := 12, slots := #[.long 32], vm := .none },
  { cls := 12, slots := #[.long 33], vm := .none },
  { cls := 12, slots := #[.long 34], vm := .none },
  { cls := 12, slots := #[.long 35], vm := .none },
  { cls := 12, slots := #[.long 36], vm := .none },
  { cls := 12, slots := #[.long 37], vm := .none },
  { cls := 12, slots := #[.long 38], vm := .none },
  { cls := 12, slots := #[.long 39], vm := .none },
  { cls := 12, slots := #[.long 40], vm := .none },
  { cls := 12, slots := #[.long 41], vm := .none },
  { cls := 12, slots := #[.long 42], vm := .none },
  { cls := 12, slots := #[.long 43], vm := .none },
  { cls := 12, slots := #[.long 44], vm := .none },
  { cls := 12, slots := #[.long 45], vm := .none },
  { cls := 12, slots := #[.long 46], vm := .none },
  { cls := 12, slots := #[.long 47], vm := .none },
  { cls := 12, slots := #[.long 48], vm := .none },
  { cls := 12, slots := #[.long 49], vm := .none },
  { cls := 12, slots := #[.long 50], vm := .none },
  { cls := 12, slots := #[.long 51], vm := .none },
  { cls := 12, slots := #[.long 52], vm := .none },
  { cls := 12, slots := #[.long 53], vm := .none },
  { cls := 12, slots := #[.long 54], vm := .none },
  { cls := 12, slots := #[.long 55], vm := .none },
  { cls := 12, slots := #[.long 56], vm := .none },
  { cls := 12, slots := #[.long 57], vm := .none },
  { cls := 12, slots := #[.long 58], vm := .none },
  { cls := 12, slots := #[.long 59], vm := .none },
  { cls := 12, slots := #[.long 60], vm := .none },
  { cls := 12, slots := #[.long 61], vm := .none },
  { cls := 12, slots := #[.long 62], vm := .none },
  { cls := 12, slots := #[.long 63], vm := .none },
  { cls := 12, slots := #[.long 64], vm := .none },
  { cls := 12, slots := #[.long 65], vm := .none },
  { cls := 12, slots := #[.long 66], vm := .none },
  { cls := 12, slots := #[.long 67], vm := .none },
  { cls := 12, slots := #[.long 68], vm := .none },
  { cls := 12, slots := #[.long 69], vm := .none },
  { cls := 12, slots := #[.long 70], vm := .none },
  { cls := 12, slots := #[.long 71], vm := .none },
  { cls := 12, slots := #[.long 72], vm := .none },
  { cls := 12, slots := #[.long 73], vm := .none },
  { cls := 12, slots := #[.long 74], vm := .none },
  { cls := 12, slots := #[.long 75], vm := .none },
  { cls := 12, slots := #[.long 76], vm := .none },
  { cls := 12, slots := #[.long 77], vm := .none },
  { cls := 12, slots := #[.long 78], vm := .none },
  { cls := 12, slots := #[.long 79], vm := .none },
  { cls := 12, slots := #[.long 80], vm := .none },
  { cls := 12, slots := #[.long 81], vm := .none },
  { cls := 12, slots := #[.long 82], vm := .none },
  { cls := 12, slots := #[.long 83], vm := .none },
  { cls := 12, slots := #[.long 84], vm := .none },
  { cls := 12, slots := #[.long 85], vm := .none },
  { cls := 12, slots := #[.long 86], vm := .none },
  { cls := 12, slots := #[.long 87], vm := .none },
  { cls := 12, slots := #[.long 88], vm := .none },
  { cls := 12, slots := #[.long 89], vm := .none },
  { cls := 12, slots := #[.long 90], vm := .none },
  { cls := 12, slots := #[.long 91], vm := .none },
  { cls := 12, slots := #[.long 92], vm := .none },
  { cls := 12, slots := #[.long 93], vm := .none },
  { cls := 12, slots := #[.long 94], vm := .none },
  { cls := 12, slots := #[.long 95], vm := .none },
  { cls := 12, slots := #[.long 96], vm := .none },
  { cls := 12, slots := #[.long 97], vm := .none },
  { cls := 12, slots := #[.long 98], vm := .none },
  { cls := 12, slots := #[.long 99], vm := .none },
  { cls := 12, slots := #[.long 100], vm := .none },
  { cls := 12, slots := #[.long 101], vm := .none },
  { cls := 12, slots := #[.long 102], vm := .none },
  { cls := 12, slots := #[.long 103], vm := .none },
  { cls := 12, slots := #[.long 104], vm := .none },
  { cls := 12, slots := #[.long 105], vm := .none },
  { cls := 12, slots := #[.long 106], vm := .none },
  { cls := 12, slots := #[.long 107], vm := .none },
  { cls := 12, slots := #[.long 108], vm := .none },
  { cls := 12, slots := #[.long 109], vm := .none },
  { cls := 12, slots := #[.long 110], vm := .none },
  { cls := 12, slots := #[.long 111], vm := .none },
  { cls := 12, slots := #[.long 112], vm := .none },
  { cls := 12, slots := #[.long 113], vm := .none },
  { cls := 12, slots := #[.long 114], vm := .none },
  { cls := 12, slots := #[.long 115], vm := .none },
  { cls := 12, slots := #[.long 116], vm := .none },
  { cls := 12, slots := #[.long 117], vm := .none },
  { cls := 12, slots := #[.long 118], vm := .none },
  { cls := 12, slots := #[.long 119], vm := .none },
  { cls := 12, slots := #[.long 120], vm := .none },
  { cls := 12, slots := #[.long 121], vm := .none },
  { cls := 12, slots := #[.long 122], vm := .none },
  { cls := 12, slots := #[.long 123], vm := .none },
  { cls := 12, slots := #[.long 124], vm := .none },
  { cls := 12, slots := #[.long 125], vm := .none },
  { cls := 12, slots := #[.long 126], vm := .none },
  { cls := 12, slots := #[.long 127], vm := .none },
  { cls := 9, slots := #[.null, .int 0, .int 0], vm := .none },
  { cls := 9, slots := #[.null, .int 0, .int 0], vm := .none }]
def classes : Array Class := #[k0, k1, k2, k3, k4, k5, k6, k7, k8, k9, k10, k11, k12, k13, k14, k15, k16, k17, k18, k19]
def interned : List (Array UInt16 × Addr) := []
def slotsUsed : Nat := 524
def theMethod : MethodId := ⟨1, 1⟩
def args0 : Array Value := #[.long 5, .long 5, .int 5]
def aboutOver (below : List Frame) : State where
  vm := { classes := classes, interned := interned.toArray }
  heap := heap
  slotsUsed := slotsUsed
  threads := #[{ frames := .invoking theMethod args0 :: below }]
def below0 : List Frame := [.native { method := ⟨0, 0⟩, args := #[] }]
def about1 : State := aboutOver below0
def p0 : Program := .bare "" "" ""
def e0 : Env := launch0.env 0 0 0
theorem w_frames : about1.frames = Frame.invoking theMethod args0 :: below0 := rfl
set_option maxRecDepth 65536 in
theorem w_args : argsFit about1.vm theMethod args0 = true := by decide +kernel
set_option maxRecDepth 65536 in
theorem w_heap : heapFits about1 = true := by decide +kernel
set_option maxRecDepth 65536 in
theorem w_runnable : about1.curStatus? = some .runnable := by decide +kernel
set_option maxRecDepth 65536 in
theorem w_alone : about1.alone = true := by decide +kernel
set_option maxRecDepth 65536 in
theorem w_named : about1.methodNamed? x = some theMethod := by decide +kernel
set_option maxRecDepth 65536 in
theorem w_hears : about1.hears theMethod below0 = true := by decide +kernel
set_option maxRecDepth 65536 in
theorem w_ripe : about1.ripe theMethod args0 below0 = true := by decide +kernel
theorem w_running : about1.status = .running := rfl
set_option maxRecDepth 65536 in
theorem w_room : about1.hasRoom e0.platform room_1 = true :=
  launch0.hasRoom_least _ room_1 (by decide +kernel) (by decide +kernel) (by decide +kernel) (by decide +kernel) (by decide +kernel) (by decide +kernel)
theorem allAtoms_all (ts : List Jvm.Cond) (a : Array Jvm.Value) (st : Jvm.State) : (allAtoms ts).before a st = ts.all (fun c => c.before a st) := by
  induction ts with
  | nil => rfl
  | cons c t ih =>
    show (Jvm.Cond.and c (allAtoms t)).before a st = _
    rw [Jvm.Cond.before_and, ih, List.all_cons]
def words1 : List Jvm.Cond := Jvm.Cond.code x code maxLocals ret :: tables_1
/-- a 'code' word, met by the world's own term for the bytes: nothing is compared byte by byte -/
theorem code_word {y : MethodName} {bytes : ByteArray} {mx : Nat} {rt : Option FieldType} {a : Array Value} {s : State} {m : MethodId} {meth : Method} {c : Code} (h1 : s.methodNamed? y = some m) (h2 : s.vm.method? m = some meth) (h3 : meth.code = some c) (h4 : c.code = bytes)
    (h5 : (c.maxLocals == mx && c.exceptionTable.isEmpty && decide (c.maxStack ≤ mostOperands) && decide (meth.sig.returnType = rt) && !meth.locks && decide (parseMethodDescriptor y.desc = some meth.sig)) = true) : (Jvm.Cond.code y bytes mx rt).before a s = true := by
  simp only [Bool.and_eq_true, beq_iff_eq, Bool.not_eq_true', decide_eq_true_eq] at h5
  obtain ⟨⟨⟨⟨⟨g1, g2⟩, g3⟩, g4⟩, g5⟩, g6⟩ := h5
  simp [Cond.before, Cond.holds, Cond.value, h1, h2, h3, h4, g1, g2, g3, g4, g5, g6]
def isCode : Jvm.Cond → Bool
  | .code _ _ _ _ => true
  | _ => false
theorem all_split {L : List Jvm.Cond} {P : Jvm.Cond → Bool} (h1 : L.all (fun c => isCode c || P c) = true) (h2 : ∀ c ∈ L.filter isCode, P c = true) : L.all P = true := by
  refine List.all_eq_true.mpr fun c hc => ?_
  have h := List.all_eq_true.mp h1 c hc
  rcases Bool.eq_false_or_eq_true (isCode c) with hi | hi
  · exact h2 c (List.mem_filter.mpr ⟨hc, hi⟩)
  · simpa [hi] using h
set_option maxRecDepth 65536 in
theorem w_c0 : (Jvm.Cond.code x code maxLocals ret).before args0 about1 = true := code_word (m := ⟨1, 1⟩) (meth := k1m1) (c := k1c1) (by decide +kernel) rfl rfl rfl (by decide +kernel)
set_option maxRecDepth 65536 in
theorem w_c1 : (Jvm.Cond.code ({ cls := "com/example/sundew/sundew/value/IntegerValue", name := "<init>", desc := "(J)V" } : Jvm.MethodName) prog_160_method_1_code (3 : Nat) (Option.none : Option Jvm.ClassFile.FieldType)).before args0 about1 = true := code_word (m := ⟨4, 0⟩) (meth := k4m0) (c := k4c0) (by decide +kernel) rfl rfl rfl (by decide +kernel)
set_option maxRecDepth 65536 in
theorem w_c2 : (Jvm.Cond.code ({ cls := "java/lang/Record", name := "<init>", desc := "()V" } : Jvm.MethodName) jdk_30_method_1_code (1 : Nat) (Option.none : Option Jvm.ClassFile.FieldType)).before args0 about1 = true := code_word (m := ⟨2, 0⟩) (meth := k2m0) (c := k2c0) (by decide +kernel) rfl rfl rfl (by decide +kernel)
set_option maxRecDepth 65536 in
theorem w_c3 : (Jvm.Cond.code ({ cls := "java/lang/Object", name := "<init>", desc := "()V" } : Jvm.MethodName) object_method_1_code (1 : Nat) (Option.none : Option Jvm.ClassFile.FieldType)).before args0 about1 = true := code_word (m := ⟨0, 0⟩) (meth := k0m0) (c := k0c0) (by decide +kernel) rfl rfl rfl (by decide +kernel)
set_option maxRecDepth 65536 in
theorem w_c4 : (Jvm.Cond.code ({ cls := "com/example/sundew/sundew/value/IntegerValue", name := "equals", desc := "(Ljava/lang/Object;)Z" } : Jvm.MethodName) prog_160_method_2_code (3 : Nat) (Option.some Jvm.ClassFile.FieldType.boolean)).before args0 about1 = true := code_word (m := ⟨4, 1⟩) (meth := k4m1) (c := k4c1) (by decide +kernel) rfl rfl rfl (by decide +kernel)
set_option maxRecDepth 65536 in
theorem w_c5 : (Jvm.Cond.code ({ cls := "java/lang/Long", name := "valueOf", desc := "(J)Ljava/lang/Long;" } : Jvm.MethodName) jdk_35_method_24_code (3 : Nat) (Option.some (Jvm.ClassFile.FieldType.object "java/lang/Long"))).before args0 about1 = true := code_word (m := ⟨12, 0⟩) (meth := k12m0) (c := k12c0) (by decide +kernel) rfl rfl rfl (by decide +kernel)
set_option maxRecDepth 65536 in
theorem w_c6 : (Jvm.Cond.code ({ cls := "java/lang/Long", name := "<init>", desc := "(J)V" } : Jvm.MethodName) jdk_35_method_26_code (3 : Nat) (Option.none : Option Jvm.ClassFile.FieldType)).before args0 about1 = true := code_word (m := ⟨12, 1⟩) (meth := k12m1) (c := k12c1) (by decide +kernel) rfl rfl rfl (by decide +kernel)
set_option maxRecDepth 65536 in
theorem w_c7 : (Jvm.Cond.code ({ cls := "java/lang/Number", name := "<init>", desc := "()V" } : Jvm.MethodName) jdk_18_method_1_code (1 : Nat) (Option.none : Option Jvm.ClassFile.FieldType)).before args0 about1 = true := code_word (m := ⟨10, 0⟩) (meth := k10m0) (c := k10c0) (by decide +kernel) rfl rfl rfl (by decide +kernel)
def codes1 : List Jvm.Cond := [Jvm.Cond.code x code maxLocals ret, Jvm.Cond.code ({ cls := "com/example/sundew/sundew/value/IntegerValue", name := "<init>", desc := "(J)V" } : Jvm.MethodName) prog_160_method_1_code (3 : Nat) (Option.none : Option Jvm.ClassFile.FieldType), Jvm.Cond.code ({ cls := "java/lang/Record", name := "<init>", desc := "()V" } : Jvm.MethodName) jdk_30_method_1_code (1 : Nat) (Option.none : Option Jvm.ClassFile.FieldType), Jvm.Cond.code ({ cls := "java/lang/Object", name := "<init>", desc := "()V" } : Jvm.MethodName) object_method_1_code (1 : Nat) (Option.none : Option Jvm.ClassFile.FieldType), Jvm.Cond.code ({ cls := "com/example/sundew/sundew/value/IntegerValue", name := "equals", desc := "(Ljava/lang/Object;)Z" } : Jvm.MethodName) prog_160_method_2_code (3 : Nat) (Option.some Jvm.ClassFile.FieldType.boolean), Jvm.Cond.code ({ cls := "java/lang/Long", name := "valueOf", desc := "(J)Ljava/lang/Long;" } : Jvm.MethodName) jdk_35_method_24_code (3 : Nat) (Option.some (Jvm.ClassFile.FieldType.object "java/lang/Long")), Jvm.Cond.code ({ cls := "java/lang/Long", name := "<init>", desc := "(J)V" } : Jvm.MethodName) jdk_35_method_26_code (3 : Nat) (Option.none : Option Jvm.ClassFile.FieldType), Jvm.Cond.code ({ cls := "java/lang/Number", name := "<init>", desc := "()V" } : Jvm.MethodName) jdk_18_method_1_code (1 : Nat) (Option.none : Option Jvm.ClassFile.FieldType)]
set_option maxRecDepth 65536 in
theorem codes_eq : words1.filter isCode = codes1 := rfl
theorem w_codes : ∀ c ∈ words1.filter isCode, c.before args0 about1 = true := by
  rw [codes_eq]
  intro c hc
  simp only [codes1, List.mem_cons, List.not_mem_nil, or_false] at hc
  rcases hc with rfl | rfl | rfl | rfl | rfl | rfl | rfl | rfl
  · exact w_c0
  · exact w_c1
  · exact w_c2
  · exact w_c3
  · exact w_c4
  · exact w_c5
  · exact w_c6
  · exact w_c7
set_option maxRecDepth 65536 in
theorem w_t1 : (words1.take 24).all (fun c => isCode c || c.before args0 about1) = true := by decide +kernel
set_option maxRecDepth 65536 in
theorem w_t2 : ((words1.drop 24).take 24).all (fun c => isCode c || c.before args0 about1) = true := by decide +kernel
set_option maxRecDepth 65536 in
theorem w_t3 : ((words1.drop 24).drop 24).all (fun c => isCode c || c.before args0 about1) = true := by decide +kernel
theorem w_tables : (allAtoms (Jvm.Cond.code x code maxLocals ret :: tables_1)).before args0 about1 = true := by
  rw [allAtoms_all]
  show words1.all (fun c => c.before args0 about1) = true
  refine all_split ?_ w_codes
  rw [← List.take_append_drop 24 words1, List.all_append, w_t1, ← List.take_append_drop 24 (words1.drop 24), List.all_append, w_t2, w_t3]
  rfl
set_option maxRecDepth 65536 in
theorem w_rest : rest_1_c.before args0 about1 = true := by decide +kernel
set_option maxRecDepth 65536 in
theorem w_case : (Jvm.Cond.and given_1 narrow_1).before args0 about1 = true := by decide +kernel
theorem w_applies : (headSpec (Jvm.Cond.code x code maxLocals ret :: tables_1) room_1).applies x e0.platform about1 = true :=
  (Spec.applies_iff w_frames).mpr ⟨w_running, w_runnable, w_alone, w_named, w_hears, w_ripe, w_room, w_tables⟩
theorem atStart : AtStart classFile x code maxLocals ret World_1 tables_1 room_1 Calls_1 rest_1 Pre_1 launch0 p0 e0 about1 theMethod args0 below0 :=
  ⟨lists_1, trivial, launch0.admits_env _ _ _, launch0.least_env, fairChoices_fair.cas, fairChoices_fair.clock, w_frames, w_args, w_heap, w_applies, trivial, w_rest, w_case⟩
end start1
theorem witness_1 : WitnessClaimed_1 := ⟨start1.p0, start1.e0, start1.about1, start1.theMethod, start1.args0, start1.below0, start1.atStart⟩
end Jvm.Pilot.@@N@@
