import JvmDerived
import JvmDerived.Pilot.@@N@@Statement
import JvmDerived.Pilot.@@N@@Code
set_option linter.unusedVariables false
set_option linter.unusedSimpArgs false
namespace Jvm.Pilot.@@N@@
open Jvm Jvm.ClassFile Sem Op Lib Jvm.Free Jvm.Stand Jvm.LawKit Jvm.RoadKit Bundle Jvm.Pilot.@@N@@.Jvm.D
/-! own_Done: from frame F on top of T the run comes to its end, and R holds there -/
def own_Done (tb : Tables) (e : Env) (below : List Frame) (R : Outcome → State → Prop) (T : State) (F : JFrame) : Prop :=
  ∃ s₂ o, Steps tb e below (T.setTop F) s₂ ∧ s₂.status = .running ∧ Ended s₂ below o ∧ R o s₂
def own_R (Qq : Option Value → Heap → List Loc → Prop) (s : State) (C S : Nat) : Outcome → State → Prop :=
  fun o U => ∃ v L, o = .returned v ∧ Qq v U.heap L ∧ FrameEnd s o U L C S
def own_RW (Qq : Option Value → Heap → List Loc → Prop) (s : State) (C S : Nat) : Outcome → State → Prop :=
  fun o U => ∃ v L, o = .returned v ∧ Qq v U.heap L ∧ ReturnedEndW s o U L C S
theorem own_st {tb : Tables} {e : Env} {below : List Frame} {R : Outcome → State → Prop} {T T' : State} {F F' : JFrame} (k : ∀ t, Steps tb e below (T'.setTop F') t → Steps tb e below (T.setTop F) t) (d : own_Done tb e below R T' F') : own_Done tb e below R T F := by
  obtain ⟨a, o, h1, h2⟩ := d
  exact ⟨a, o, k a h1, h2⟩
theorem own_tr {tb : Tables} {e : Env} {below : List Frame} {R : Outcome → State → Prop} {T T' : State} {F F' : JFrame} (k : Steps tb e below (T.setTop F) (T'.setTop F')) (d : own_Done tb e below R T' F') : own_Done tb e below R T F := by
  obtain ⟨a, o, h1, h2⟩ := d
  exact ⟨a, o, k.trans h1, h2⟩
section Own
variable {p : Program} {l : Launch} {e : Env} {Rm : Room} {s : State} {m : MethodId} {args : Array Value} {below : List Frame} {meth : Method} {c : Code} {T : State} {locs : List Loc} {cells slots : Nat}
theorem own_ret (X : Stand p l e Rm s m args below meth c T locs cells slots) (hx : p.tables.exec = Jvm.exec) {pc : Nat} {Ls : Array Slot} {w : Value} {t : FieldType} {i : Instr} {rest : List Value} (hret : meth.sig.returnType = some t) (hn : narrow t w = w)
    (hi : (i = .ireturn ∧ (t = .int ∨ t = .boolean ∨ t = .byte ∨ t = .char ∨ t = .short) ∧ ∃ z, w = .int z) ∨ (i = .lreturn ∧ t = .long ∧ ∃ z, w = .long z) ∨ (i = .dreturn ∧ t = .double ∧ ∃ z, w = .double z) ∨ (i = .freturn ∧ t = .float ∧ ∃ z, w = .float z) ∨ (i = .areturn ∧ t.isReference = true ∧ w.isRef = true))
    (hd : decode c.code pc = .ok (i, 1)) (hlk : meth.locks = false) {Qq : Option Value → Heap → List Loc → Prop} {C S : Nat} (hQ : Qq (some w) T.heap locs) (hc : cells ≤ C) (hs : slots ≤ S) :
    own_Done p.tables e below (own_R Qq s C S) T (mkF m pc Ls (w :: rest)) := by
  obtain ⟨fs, hr, hrun, hended, hW, hsame⟩ := X.leave (v := some w) (fun h => by rw [hret] at h; cases h) hlk
  exact ⟨_, _, retOut X hx hret hn hi hd hr, hrun, hended, _, _, rfl, hQ, ⟨_, rfl⟩, hW, hsame.mono hc hs⟩
theorem own_retI (X : Stand p l e Rm s m args below meth c T locs cells slots) (hx : p.tables.exec = Jvm.exec) {pc : Nat} {Ls : Array Slot} {z : Int32} {rest : List Value} (hret : meth.sig.returnType = some .int) (hd : decode c.code pc = .ok (.ireturn, 1)) (hlk : meth.locks = false)
    {Qq : Option Value → Heap → List Loc → Prop} {C S : Nat} (hQ : Qq (some (.int z)) T.heap locs) (hc : cells ≤ C) (hs : slots ≤ S) : own_Done p.tables e below (own_R Qq s C S) T (mkF m pc Ls (.int z :: rest)) :=
  own_ret X hx hret rfl (Or.inl ⟨rfl, Or.inl rfl, _, rfl⟩) hd hlk hQ hc hs
theorem own_retN (X : Stand p l e Rm s m args below meth c T locs cells slots) (hx : p.tables.exec = Jvm.exec) {pc : Nat} {Ls : Array Slot} {z : Int32} {t : FieldType} {rest : List Value} (hret : meth.sig.returnType = some t) (ht : t = .boolean ∨ t = .byte ∨ t = .char ∨ t = .short) (hn : narrow t (.int z) = .int z) (hd : decode c.code pc = .ok (.ireturn, 1)) (hlk : meth.locks = false)
    {Qq : Option Value → Heap → List Loc → Prop} {C S : Nat} (hQ : Qq (some (.int z)) T.heap locs) (hc : cells ≤ C) (hs : slots ≤ S) : own_Done p.tables e below (own_R Qq s C S) T (mkF m pc Ls (.int z :: rest)) :=
  own_ret X hx hret hn (Or.inl ⟨rfl, Or.inr ht, _, rfl⟩) hd hlk hQ hc hs
theorem own_retJ (X : Stand p l e Rm s m args below meth c T locs cells slots) (hx : p.tables.exec = Jvm.exec) {pc : Nat} {Ls : Array Slot} {z : Int64} {rest : List Value} (hret : meth.sig.returnType = some .long) (hd : decode c.code pc = .ok (.lreturn, 1)) (hlk : meth.locks = false)
    {Qq : Option Value → Heap → List Loc → Prop} {C S : Nat} (hQ : Qq (some (.long z)) T.heap locs) (hc : cells ≤ C) (hs : slots ≤ S) : own_Done p.tables e below (own_R Qq s C S) T (mkF m pc Ls (.long z :: rest)) :=
  own_ret X hx hret rfl (Or.inr (Or.inl ⟨rfl, rfl, _, rfl⟩)) hd hlk hQ hc hs
theorem own_narrow {t : FieldType} {v : Value} (h : v.isRef = true) : narrow t v = v := by
  rcases ref_cases h with rfl | ⟨a, rfl⟩ <;> cases t <;> rfl
theorem own_retA (X : Stand p l e Rm s m args below meth c T locs cells slots) (hx : p.tables.exec = Jvm.exec) {pc : Nat} {Ls : Array Slot} {w : Value} {t : FieldType} {rest : List Value} (hret : meth.sig.returnType = some t) (ht : t.isReference = true) (hw : w.isRef = true) (hd : decode c.code pc = .ok (.areturn, 1)) (hlk : meth.locks = false)
    {Qq : Option Value → Heap → List Loc → Prop} {C S : Nat} (hQ : Qq (some w) T.heap locs) (hc : cells ≤ C) (hs : slots ≤ S) : own_Done p.tables e below (own_R Qq s C S) T (mkF m pc Ls (w :: rest)) :=
  own_ret X hx hret (own_narrow hw) (Or.inr (Or.inr (Or.inr (Or.inr ⟨rfl, ht, hw⟩)))) hd hlk hQ hc hs
theorem own_retV (X : Stand p l e Rm s m args below meth c T locs cells slots) (hx : p.tables.exec = Jvm.exec) {pc : Nat} {Ls : Array Slot} (hret : meth.sig.returnType = none) (hd : decode c.code pc = .ok (.return_, 1)) (hlk : meth.locks = false)
    {Qq : Option Value → Heap → List Loc → Prop} {C S : Nat} (hQ : Qq none T.heap locs) (hc : cells ≤ C) (hs : slots ≤ S) : own_Done p.tables e below (own_R Qq s C S) T (mkF m pc Ls []) := by
  obtain ⟨fs, hr, hrun, hended, hW, hsame⟩ := X.leave (v := none) (fun _ => rfl) hlk
  exact ⟨_, _, X.returnOut hx hret hd hr, hrun, hended, _, _, rfl, hQ, ⟨_, rfl⟩, hW, hsame.mono hc hs⟩
theorem own_retW {vm₁ : Vm} (X : Stand p l e Rm (s.setVm vm₁) m args below meth c T locs cells slots) (hx : p.tables.exec = Jvm.exec) {pc : Nat} {Ls : Array Slot} {w : Value} {t : FieldType} {i : Instr} {rest : List Value} (hret : meth.sig.returnType = some t) (hn : narrow t w = w)
    (hi : (i = .ireturn ∧ (t = .int ∨ t = .boolean ∨ t = .byte ∨ t = .char ∨ t = .short) ∧ ∃ z, w = .int z) ∨ (i = .lreturn ∧ t = .long ∧ ∃ z, w = .long z) ∨ (i = .dreturn ∧ t = .double ∧ ∃ z, w = .double z) ∨ (i = .freturn ∧ t = .float ∧ ∃ z, w = .float z) ∨ (i = .areturn ∧ t.isReference = true ∧ w.isRef = true))
    {ks : Nat} (hS : s.Since vm₁ ks) (hk : ks ≤ T.heap.size) (hd : decode c.code pc = .ok (i, 1)) (hlk : meth.locks = false) {Qq : Option Value → Heap → List Loc → Prop} {C S : Nat} (hQ : Qq (some w) T.heap locs) (hc : cells ≤ C) (hs : slots ≤ S) :
    own_Done p.tables e below (own_RW Qq s C S) T (mkF m pc Ls (w :: rest)) := by
  obtain ⟨fs, hr, hrun, hended, hW⟩ := X.leaveW hS hk (v := some w) (fun h => by rw [hret] at h; cases h) hlk
  exact ⟨_, _, retOut X hx hret hn hi hd hr, hrun, hended, _, _, rfl, hQ, hW.1, hW.2.1, hW.2.2.1, hW.2.2.2.mono hc hs⟩
theorem own_retIW {vm₁ : Vm} (X : Stand p l e Rm (s.setVm vm₁) m args below meth c T locs cells slots) (hx : p.tables.exec = Jvm.exec) {pc : Nat} {Ls : Array Slot} {z : Int32} {rest : List Value} (hret : meth.sig.returnType = some .int) {ks : Nat} (hS : s.Since vm₁ ks) (hk : ks ≤ T.heap.size) (hd : decode c.code pc = .ok (.ireturn, 1)) (hlk : meth.locks = false)
    {Qq : Option Value → Heap → List Loc → Prop} {C S : Nat} (hQ : Qq (some (.int z)) T.heap locs) (hc : cells ≤ C) (hs : slots ≤ S) : own_Done p.tables e below (own_RW Qq s C S) T (mkF m pc Ls (.int z :: rest)) :=
  own_retW X hx hret rfl (Or.inl ⟨rfl, Or.inl rfl, _, rfl⟩) hS hk hd hlk hQ hc hs
theorem own_retNW {vm₁ : Vm} (X : Stand p l e Rm (s.setVm vm₁) m args below meth c T locs cells slots) (hx : p.tables.exec = Jvm.exec) {pc : Nat} {Ls : Array Slot} {z : Int32} {t : FieldType} {rest : List Value} (hret : meth.sig.returnType = some t) (ht : t = .boolean ∨ t = .byte ∨ t = .char ∨ t = .short) (hn : narrow t (.int z) = .int z) {ks : Nat} (hS : s.Since vm₁ ks) (hk : ks ≤ T.heap.size) (hd : decode c.code pc = .ok (.ireturn, 1)) (hlk : meth.locks = false)
    {Qq : Option Value → Heap → List Loc → Prop} {C S : Nat} (hQ : Qq (some (.int z)) T.heap locs) (hc : cells ≤ C) (hs : slots ≤ S) : own_Done p.tables e below (own_RW Qq s C S) T (mkF m pc Ls (.int z :: rest)) :=
  own_retW X hx hret hn (Or.inl ⟨rfl, Or.inr ht, _, rfl⟩) hS hk hd hlk hQ hc hs
theorem own_retJW {vm₁ : Vm} (X : Stand p l e Rm (s.setVm vm₁) m args below meth c T locs cells slots) (hx : p.tables.exec = Jvm.exec) {pc : Nat} {Ls : Array Slot} {z : Int64} {rest : List Value} (hret : meth.sig.returnType = some .long) {ks : Nat} (hS : s.Since vm₁ ks) (hk : ks ≤ T.heap.size) (hd : decode c.code pc = .ok (.lreturn, 1)) (hlk : meth.locks = false)
    {Qq : Option Value → Heap → List Loc → Prop} {C S : Nat} (hQ : Qq (some (.long z)) T.heap locs) (hc : cells ≤ C) (hs : slots ≤ S) : own_Done p.tables e below (own_RW Qq s C S) T (mkF m pc Ls (.long z :: rest)) :=
  own_retW X hx hret rfl (Or.inr (Or.inl ⟨rfl, rfl, _, rfl⟩)) hS hk hd hlk hQ hc hs
theorem own_mono (X : Stand p l e Rm s m args below meth c T locs cells slots) {C S : Nat} (hc : cells ≤ C) (hs : slots ≤ S) : Stand p l e Rm s m args below meth c T locs C S :=
  { X with same := X.same.mono hc hs }
end Own
theorem own_cat1 {v : Value} (h : v.isRef = true) : v.category = 1 := by rcases ref_cases h with rfl | ⟨a, rfl⟩ <;> rfl
theorem own_fits {t : FieldType} {v : Value} (ht : t.isReference = true) (h : v.isRef = true) : fits t v = true := by rcases ref_cases h with rfl | ⟨a, rfl⟩ <;> cases t <;> first | rfl | cases ht
theorem own_nb {z : Int32} (h : z = 0 ∨ z = 1) : narrow .boolean (.int z) = .int z := by rcases h with rfl | rfl <;> rfl
theorem own_fb {z : Int32} (h : z = 0 ∨ z = 1) : fits .boolean (.int z) = true := by rcases h with rfl | rfl <;> rfl
theorem own_ext_refl (h : Heap) : Ext h h := ⟨Nat.le_refl _, fun _ _ q => q⟩
theorem own_ext_trans {h h' h2 : Heap} (A : Ext h h') (B : Ext h' h2) : Ext h h2 := ⟨Nat.le_trans A.1 B.1, fun a c q => B.2 a c (A.2 a c q)⟩
theorem own_O_wr {Z : State} {h h' : Heap} {a : Addr} {sl : Nat} {v : Value} (A : Ext Z.heap h) (B : Wr h h' a sl v) (q : Z.heap.size ≤ a) : Ext Z.heap h' := (Old.wr (⟨rfl, A⟩ : Old Z Z.heap.size h) B q).2
theorem own_O_keep {Z : State} {h h' : Heap} {ws : List Addr} (A : Ext Z.heap h) (B : Keep h h' ws) (q : ∀ a ∈ ws, Z.heap.size ≤ a) : Ext Z.heap h' := (Old.keep (⟨rfl, A⟩ : Old Z Z.heap.size h) B q).2
theorem own_eq_int {args : Array Value} {s : State} {t : Term} {k : Int32} (h : (Jvm.Cond.eq t (Term.int k)).value args s none s [] = some true) : t.eval args s none [] s = some (.int k) := by
  obtain ⟨u, v, h1, h2, h3, h4⟩ := cmp_v (Or.inl h)
  have h5 : v = .int k := (Option.some.inj h2).symm
  subst h5
  obtain ⟨z, rfl⟩ := h4
  rw [h1]
  simp only [Jvm.Cond.value, h1, h2, Option.some.injEq, decide_eq_true_eq] at h
  rw [h]
theorem own_fld_int {args : Array Value} {s : State} {t : Term} {C n d : String} {a : Addr} {k : Int32} (ht : t.eval args s none [] s = some (.ref a)) (h : (Jvm.Cond.eq (Term.field t C n d) (Term.int k)).value args s none s [] = some true) : s.fieldOf? a C n d = some (.int k) :=
  (fld_at ht).symm.trans (own_eq_int h)
theorem own_eq_ref {args : Array Value} {s : State} {t u : Term} {a : Addr} (h : (Jvm.Cond.eq t u).value args s none s [] = some true) (hu : u.eval args s none [] s = some (.ref a)) : t.eval args s none [] s = some (.ref a) := by
  obtain ⟨x1, y1, h1, h2, h3, h4⟩ := cmp_v (Or.inl h)
  obtain rfl : y1 = .ref a := Option.some.inj (h2.symm.trans hu)
  have hr : x1.isRef = true := by cases x1 <;> first | rfl | (simp [Kin] at h3; done) | exact h3.1
  have e := gotT (eq_R h1 h2 hr rfl) h
  rw [h1, e]
theorem own_len {args : Array Value} {s : State} {t : Term} {a : Addr} {cl : Cell} {n : Int32} (h : (Term.length t).eval args s none [] s = some (.int n)) (ht : t.eval args s none [] s = some (.ref a)) (hc : s.heap[a]? = some cl) : cl.slots.size < 2 ^ 31 ∧ cl.slots.size.toInt32 = n := by
  obtain ⟨a', cell, e1, e2, e3⟩ := Term.length_spec h
  cases ht.symm.trans e1
  cases hc.symm.trans (State.arrayAt?_spec e2).1
  by_cases q : cl.slots.size < 2 ^ 31
  · exact ⟨q, (Value.int.inj e3).symm⟩
  · simp [Term.eval, ht, e2, q] at h
theorem own_initFor {args : Array Value} {s : State} {C n d : String} (h1 : (Jvm.Cond.initializedFor C n d).before args s = true) (h2 : (Jvm.Cond.laysStatic C n d).before args s = true) : (Jvm.Cond.initialized C).before args s = true := by
  obtain ⟨c, k, i, f, a, cell, q1, q2, -⟩ := Cond.laysStatic_spec h2
  have q3 := Cond.initializedFor_spec q2 h1
  have q4 := State.fieldFound?_class q2
  simp [Cond.before, Cond.holds, Cond.value, q1, q4, q3]
theorem own_ns_root {Z : State} {a0 : Array Value} {Ob K : String} {n : Nat} (w : (Jvm.Cond.noSuperclass Ob).before a0 Z = true) (wk : (Jvm.Cond.instantiable K n).before a0 Z = true) (hn : Ob ≠ K) : NS Z Ob K := by
  obtain ⟨c, k, h1, h2, h3, -, -⟩ := Cond.noSuperclass_spec w
  obtain ⟨t, k2, g1, -⟩ := Cond.instantiable_spec wk
  have ne := ids_ne h1 g1 hn
  refine ⟨c, t, h1, g1, fun fuel => ?_⟩
  cases fuel with
  | zero => rfl
  | succ f => simp [Vm.isSubclassAux, ne, h2, h3]
theorem own_ns_no {Z : State} {a0 : Array Value} {C Sp K : String} {n : Nat} (w : (Jvm.Cond.superclass C Sp).before a0 Z = true) (wk : (Jvm.Cond.instantiable K n).before a0 Z = true) (ns : NS Z C K) (hn : C ≠ K) : ∃ c t, Z.vm.findClass C = some c ∧ Z.vm.findClass K = some t ∧ Z.vm.assignable c t = false := by
  obtain ⟨c, t, h0, g0, n3⟩ := ns
  obtain ⟨p, k, kp, h1, h2, h3, h4, h5, -, h7⟩ := Cond.superclass_spec h0 w
  obtain ⟨t', k', g1, g2, g3, g4, -⟩ := Cond.instantiable_spec wk
  cases g0.symm.trans g1
  have g5 : k'.isInterface = false := by
    simp only [Bool.or_eq_false_iff] at g4
    exact g4.1
  have ne := ids_ne h0 g0 hn
  refine ⟨c, t, h0, g0, ?_⟩
  show Z.vm.assignableAux (255 + 1) c t = false
  simp [Vm.assignableAux, ne, h2, g2, h5, g3, g5, Vm.isSubclass, n3]
theorem own_ext_keep {h h' : Heap} (K : Keep h h' []) : Ext h h' := ⟨K.1, fun a c q => K.2.1 a c q (fun z => nomatch z)⟩
theorem own_sub_at {args : Array Value} {first s : State} {o : Option Outcome} {idx : List Nat} {t u : Term} {v w : Int32} (ha : t.eval args first o idx s = some (.int v)) (hb : u.eval args first o idx s = some (.int w)) : (Term.sub t u).eval args first o idx s = some (.int (v - w)) := by simp [Term.eval, ha, hb]
def own_Bx (Z : State) (h : Heap) (w : Value) (b q : Int32) : Prop := (w = .null ∧ b = 1) ∨ (b = 0 ∧ ∃ r : Addr, w = .ref r ∧ Exa Z h r "java/lang/Integer" ∧ Fld Z h r "java/lang/Integer" "value" "I" (.int q))
theorem own_Bx.ext {Z : State} {h h' : Heap} {w : Value} {b q : Int32} (B : own_Bx Z h w b q) (E : Ext h h') : own_Bx Z h' w b q := by
  rcases B with B | ⟨e, r, rfl, X, F⟩
  · exact Or.inl B
  · exact Or.inr ⟨e, r, rfl, X.ext E, F.ext E⟩
theorem own_Bx.keep {Z : State} {h h' : Heap} {w : Value} {b q : Int32} {a : Addr} {C : String} (B : own_Bx Z h w b q) (K : Keep h h' [a]) (X' : Exa Z h a C) (hn : "java/lang/Integer" ≠ C) : own_Bx Z h' w b q := by
  rcases B with B | ⟨e, r, rfl, X, F⟩
  · exact Or.inl B
  · exact Or.inr ⟨e, r, rfl, X.keep K, F.keep K (ninS (ne_exa X X' hn) nin0)⟩
theorem own_Bx.isRef {Z : State} {h : Heap} {w : Value} {b q : Int32} (B : own_Bx Z h w b q) : w.isRef = true := by
  rcases B with ⟨rfl, -⟩ | ⟨-, r, rfl, -, -⟩ <;> rfl
def own_eqv (b1 x1 b2 x2 : Int32) : Int32 := if b1 = 0 then (if b2 = 0 then (if x1 = x2 then 1 else 0) else 0) else (if b2 = 0 then 0 else 1)
theorem own_eqv_self (b z : Int32) : own_eqv b z b z = 1 := by
  unfold own_eqv
  by_cases h : b = 0 <;> simp [h]
theorem own_fld_uniq {Z : State} {h : Heap} {a : Addr} {C n d : String} {v w : Value} (F : Fld Z h a C n d v) (G : Fld Z h a C n d w) : v = w := by
  by_cases q : v = w
  · exact q
  · exact absurd rfl (F.ne G q)
theorem own_selects_private {args : Array Value} {s : State} {y : MethodName} {n : Nat} (hinst : (Jvm.Cond.instanceMethod y).before args s = true) (hpriv : (Jvm.Cond.privateMethod y).before args s = true) (hi : (Jvm.Cond.instantiable y.cls n).before args s = true) (hy : y.cls ≠ "java/lang/invoke/MethodHandle" ∧ y.cls ≠ "java/lang/invoke/VarHandle") : (Jvm.Cond.selects y.cls y y).before args s = true := by
  obtain ⟨mk, methM, hnamed, hmethM, hstM, habM⟩ := Cond.instanceMethod_spec hinst
  have hc := findClass_of_methodNamed hnamed
  obtain ⟨c, k, g1, g2, g3, g4, -⟩ := Cond.instantiable_spec hi
  cases hc.symm.trans g1
  have hf := State.methodFound?_of_named hnamed hy
  have hs : selectMethod {} s.vm mk.cls mk = .method mk := selectMethod_private hmethM (Cond.privateMethod_at hpriv mk methM hnamed hmethM)
  have g5 : k.isInterface = false := by
    simp only [Bool.or_eq_false_iff] at g4
    exact g4.1
  simp [Cond.before, Cond.holds, Cond.value, hc, hf, hnamed, hs, g2, g5]
def Ctx (Z : State) (a0 : Array Value) (w_ATOM : Addr) (w_RELEASE : Addr) (w_TRIGGERED : Addr) (w_WEAK_YESTERDAY : Addr) (w_NEXT : Addr) (w_AND : Addr) (w_UNTIL : Addr) (w_OR : Addr) (w_SINCE : Addr) (w_YESTERDAY : Addr) : Prop := (∀ d ∈ tables_1, d.before a0 Z = true) ∧ Sta Z Z.heap "com/example/sundew/sundew/check/LtlFormulas$Kind" "ATOM" "Lcom/example/sundew/sundew/check/LtlFormulas$Kind;" (.ref w_ATOM) ∧ Exa Z Z.heap w_ATOM "com/example/sundew/sundew/check/LtlFormulas$Kind" ∧ Sta Z Z.heap "com/example/sundew/sundew/check/LtlFormulas$Kind" "RELEASE" "Lcom/example/sundew/sundew/check/LtlFormulas$Kind;" (.ref w_RELEASE) ∧ Exa Z Z.heap w_RELEASE "com/example/sundew/sundew/check/LtlFormulas$Kind" ∧ Sta Z Z.heap "com/example/sundew/sundew/check/LtlFormulas$Kind" "TRIGGERED" "Lcom/example/sundew/sundew/check/LtlFormulas$Kind;" (.ref w_TRIGGERED) ∧ Exa Z Z.heap w_TRIGGERED "com/example/sundew/sundew/check/LtlFormulas$Kind" ∧ Sta Z Z.heap "com/example/sundew/sundew/check/LtlFormulas$Kind" "WEAK_YESTERDAY" "Lcom/example/sundew/sundew/check/LtlFormulas$Kind;" (.ref w_WEAK_YESTERDAY) ∧ Exa Z Z.heap w_WEAK_YESTERDAY "com/example/sundew/sundew/check/LtlFormulas$Kind" ∧ Sta Z Z.heap "com/example/sundew/sundew/check/LtlFormulas$Kind" "NEXT" "Lcom/example/sundew/sundew/check/LtlFormulas$Kind;" (.ref w_NEXT) ∧ Exa Z Z.heap w_NEXT "com/example/sundew/sundew/check/LtlFormulas$Kind" ∧ Sta Z Z.heap "com/example/sundew/sundew/check/LtlFormulas$Kind" "AND" "Lcom/example/sundew/sundew/check/LtlFormulas$Kind;" (.ref w_AND) ∧ Exa Z Z.heap w_AND "com/example/sundew/sundew/check/LtlFormulas$Kind" ∧ Sta Z Z.heap "com/example/sundew/sundew/check/LtlFormulas$Kind" "UNTIL" "Lcom/example/sundew/sundew/check/LtlFormulas$Kind;" (.ref w_UNTIL) ∧ Exa Z Z.heap w_UNTIL "com/example/sundew/sundew/check/LtlFormulas$Kind" ∧ Sta Z Z.heap "com/example/sundew/sundew/check/LtlFormulas$Kind" "OR" "Lcom/example/sundew/sundew/check/LtlFormulas$Kind;" (.ref w_OR) ∧ Exa Z Z.heap w_OR "com/example/sundew/sundew/check/LtlFormulas$Kind" ∧ Sta Z Z.heap "com/example/sundew/sundew/check/LtlFormulas$Kind" "SINCE" "Lcom/example/sundew/sundew/check/LtlFormulas$Kind;" (.ref w_SINCE) ∧ Exa Z Z.heap w_SINCE "com/example/sundew/sundew/check/LtlFormulas$Kind" ∧ Sta Z Z.heap "com/example/sundew/sundew/check/LtlFormulas$Kind" "YESTERDAY" "Lcom/example/sundew/sundew/check/LtlFormulas$Kind;" (.ref w_YESTERDAY) ∧ Exa Z Z.heap w_YESTERDAY "com/example/sundew/sundew/check/LtlFormulas$Kind" ∧ Fld Z Z.heap w_ATOM "java/lang/Enum" "ordinal" "I" (.int (0 : Int32)) ∧ Fld Z Z.heap w_RELEASE "java/lang/Enum" "ordinal" "I" (.int (5 : Int32)) ∧ Fld Z Z.heap w_TRIGGERED "java/lang/Enum" "ordinal" "I" (.int (9 : Int32)) ∧ Fld Z Z.heap w_WEAK_YESTERDAY "java/lang/Enum" "ordinal" "I" (.int (7 : Int32)) ∧ Fld Z Z.heap w_NEXT "java/lang/Enum" "ordinal" "I" (.int (3 : Int32)) ∧ Fld Z Z.heap w_AND "java/lang/Enum" "ordinal" "I" (.int (1 : Int32)) ∧ Fld Z Z.heap w_UNTIL "java/lang/Enum" "ordinal" "I" (.int (4 : Int32)) ∧ Fld Z Z.heap w_OR "java/lang/Enum" "ordinal" "I" (.int (2 : Int32)) ∧ Fld Z Z.heap w_SINCE "java/lang/Enum" "ordinal" "I" (.int (8 : Int32)) ∧ Fld Z Z.heap w_YESTERDAY "java/lang/Enum" "ordinal" "I" (.int (6 : Int32)) ∧ True
def Q0 (Z : State) (v : Option Value) (h : Heap) (L : List Loc) : Prop := v = some (.int (1 : Int32)) ∧ Fr Z.heap.size L
def Q1 (Z : State) (r : Value) (h0 : Heap) (v : Option Value) (h : Heap) (L : List Loc) : Prop := v = some r ∧ Fr Z.heap.size L ∧ h = h0
theorem own_nine (k : Int32) (h0 : 0 ≤ k.toInt) (h1 : k.toInt < 10) (n0 : ¬ k = 0) (n1 : ¬ k = 1) (n2 : ¬ k = 2) (n3 : ¬ k = 3) (n4 : ¬ k = 4) (n5 : ¬ k = 5) (n6 : ¬ k = 6) (n7 : ¬ k = 7) (n8 : ¬ k = 8) : k = 9 := by
  have q : ∀ j : Int32, ¬ k = j → k.toInt ≠ j.toInt := fun j h e => h (Int32.toInt_inj.mp e)
  have m0 : k.toInt ≠ 0 := q 0 n0
  have m1 : k.toInt ≠ 1 := q 1 n1
  have m2 : k.toInt ≠ 2 := q 2 n2
  have m3 : k.toInt ≠ 3 := q 3 n3
  have m4 : k.toInt ≠ 4 := q 4 n4
  have m5 : k.toInt ≠ 5 := q 5 n5
  have m6 : k.toInt ≠ 6 := q 6 n6
  have m7 : k.toInt ≠ 7 := q 7 n7
  have m8 : k.toInt ≠ 8 := q 8 n8
  have e : k.toInt = (9 : Int32).toInt := by show k.toInt = 9; omega
  exact Int32.toInt_inj.mp e
theorem own_mod10 (z : Int32) : 0 ≤ ((z &&& (2147483647 : Int32)) % (10 : Int32)).toInt ∧ ((z &&& (2147483647 : Int32)) % (10 : Int32)).toInt < 10 := by
  have a := c_mask z 2147483647 31 (by decide) (by decide)
  have b := (c_irem (z &&& (2147483647 : Int32)) 10 10 (by decide)).1 (by omega)
  rw [b]; omega
theorem d1_0 : decode method_2_code 0 = .ok (.iload_n 0, 1) := by decide +kernel
theorem d1_1 : decode method_2_code 1 = .ok (.ifCond .ne 7, 3) := by decide +kernel
theorem d1_4 : decode method_2_code 4 = .ok (.getstatic 7, 3) := by decide +kernel
theorem d1_7 : decode method_2_code 7 = .ok (.areturn, 1) := by decide +kernel
theorem d1_8 : decode method_2_code 8 = .ok (.iload_n 0, 1) := by decide +kernel
theorem d1_9 : decode method_2_code 9 = .ok (.iconst 1, 1) := by decide +kernel
theorem d1_10 : decode method_2_code 10 = .ok (.if_icmp .ne 7, 3) := by decide +kernel
theorem d1_13 : decode method_2_code 13 = .ok (.getstatic 13, 3) := by decide +kernel
theorem d1_16 : decode method_2_code 16 = .ok (.areturn, 1) := by decide +kernel
theorem d1_17 : decode method_2_code 17 = .ok (.iload_n 0, 1) := by decide +kernel
theorem d1_18 : decode method_2_code 18 = .ok (.iconst 2, 1) := by decide +kernel
theorem d1_19 : decode method_2_code 19 = .ok (.if_icmp .ne 7, 3) := by decide +kernel
theorem d1_22 : decode method_2_code 22 = .ok (.getstatic 16, 3) := by decide +kernel
theorem d1_25 : decode method_2_code 25 = .ok (.areturn, 1) := by decide +kernel
theorem d1_26 : decode method_2_code 26 = .ok (.iload_n 0, 1) := by decide +kernel
theorem d1_27 : decode method_2_code 27 = .ok (.iconst 3, 1) := by decide +kernel
theorem d1_28 : decode method_2_code 28 = .ok (.if_icmp .ne 7, 3) := by decide +kernel
theorem d1_31 : decode method_2_code 31 = .ok (.getstatic 19, 3) := by decide +kernel
theorem d1_34 : decode method_2_code 34 = .ok (.areturn, 1) := by decide +kernel
theorem d1_35 : decode method_2_code 35 = .ok (.iload_n 0, 1) := by decide +kernel
theorem d1_36 : decode method_2_code 36 = .ok (.iconst 4, 1) := by decide +kernel
theorem d1_37 : decode method_2_code 37 = .ok (.if_icmp .ne 7, 3) := by decide +kernel
theorem d1_40 : decode method_2_code 40 = .ok (.getstatic 22, 3) := by decide +kernel
theorem d1_43 : decode method_2_code 43 = .ok (.areturn, 1) := by decide +kernel
theorem d1_44 : decode method_2_code 44 = .ok (.iload_n 0, 1) := by decide +kernel
theorem d1_45 : decode method_2_code 45 = .ok (.iconst 5, 1) := by decide +kernel
theorem d1_46 : decode method_2_code 46 = .ok (.if_icmp .ne 7, 3) := by decide +kernel
theorem d1_49 : decode method_2_code 49 = .ok (.getstatic 25, 3) := by decide +kernel
theorem d1_52 : decode method_2_code 52 = .ok (.areturn, 1) := by decide +kernel
theorem d1_53 : decode method_2_code 53 = .ok (.iload_n 0, 1) := by decide +kernel
theorem d1_54 : decode method_2_code 54 = .ok (.bipush 6, 2) := by decide +kernel
theorem d1_56 : decode method_2_code 56 = .ok (.if_icmp .ne 7, 3) := by decide +kernel
theorem d1_59 : decode method_2_code 59 = .ok (.getstatic 28, 3) := by decide +kernel
theorem d1_62 : decode method_2_code 62 = .ok (.areturn, 1) := by decide +kernel
theorem d1_63 : decode method_2_code 63 = .ok (.iload_n 0, 1) := by decide +kernel
theorem d1_64 : decode method_2_code 64 = .ok (.bipush 7, 2) := by decide +kernel
theorem d1_66 : decode method_2_code 66 = .ok (.if_icmp .ne 7, 3) := by decide +kernel
theorem d1_69 : decode method_2_code 69 = .ok (.getstatic 31, 3) := by decide +kernel
theorem d1_72 : decode method_2_code 72 = .ok (.areturn, 1) := by decide +kernel
theorem d1_73 : decode method_2_code 73 = .ok (.iload_n 0, 1) := by decide +kernel
theorem d1_74 : decode method_2_code 74 = .ok (.bipush 8, 2) := by decide +kernel
theorem d1_76 : decode method_2_code 76 = .ok (.if_icmp .ne 7, 3) := by decide +kernel
theorem d1_79 : decode method_2_code 79 = .ok (.getstatic 34, 3) := by decide +kernel
theorem d1_82 : decode method_2_code 82 = .ok (.areturn, 1) := by decide +kernel
theorem d1_83 : decode method_2_code 83 = .ok (.getstatic 37, 3) := by decide +kernel
theorem d1_86 : decode method_2_code 86 = .ok (.areturn, 1) := by decide +kernel
theorem pn_0 : plainName "com/example/sundew/sundew/check/KindIsWeakPinLaw" = true := by first | (simp [plainName, overriddenIn]; done) | decide +kernel
set_option maxRecDepth 65536 in
set_option maxHeartbeats 40000000 in
theorem rm1 (l : Launch) (Z : State) (a0 : Array Value) {w_ATOM : Addr} {w_RELEASE : Addr} {w_TRIGGERED : Addr} {w_WEAK_YESTERDAY : Addr} {w_NEXT : Addr} {w_AND : Addr} {w_UNTIL : Addr} {w_OR : Addr} {w_SINCE : Addr} {w_YESTERDAY : Addr} (CX : Ctx Z a0 w_ATOM w_RELEASE w_TRIGGERED w_WEAK_YESTERDAY w_NEXT w_AND w_UNTIL w_OR w_SINCE w_YESTERDAY) (ws : List Jvm.Cond) (p1 : Int32) (r : Addr) (h0 : Heap) (O : Ext Z.heap h0) (hr : r = if p1 = 0 then w_ATOM else if p1 = 1 then w_AND else if p1 = 2 then w_OR else if p1 = 3 then w_NEXT else if p1 = 4 then w_UNTIL else if p1 = 5 then w_RELEASE else if p1 = 6 then w_YESTERDAY else if p1 = 7 then w_WEAK_YESTERDAY else if p1 = 8 then w_SINCE else w_TRIGGERED) :
    MetFree l (⟨"com/example/sundew/sundew/check/KindIsWeakPinLaw", "pick", "(I)Lcom/example/sundew/sundew/check/LtlFormulas$Kind;"⟩ : MethodName) (head1 (Jvm.Cond.code (⟨"com/example/sundew/sundew/check/KindIsWeakPinLaw", "pick", "(I)Lcom/example/sundew/sundew/check/LtlFormulas$Kind;"⟩ : MethodName) method_2_code 1 (some (.object "com/example/sundew/sundew/check/LtlFormulas$Kind")) :: ws) ({ frames := 0, cells := 0, slots := 0, locals := 0 } : Room)) (fun a U => a = #[(.int p1)] ∧ Z.Warmed39 U.vm ∧ U.heap = h0) (fun _ _ _ _ _ => True) (fun _ U o U' => ∃ v L, o = .returned v ∧ Q1 Z (.ref r) h0 v U'.heap L ∧ FrameEnd U o U' L ({ frames := 0, cells := 0, slots := 0, locals := 0 } : Room).cells ({ frames := 0, cells := 0, slots := 0, locals := 0 } : Room).slots) := by
  refine MetFree.of_bodySF (plainFor_of_name pn_0) hisR ?_
  intro p e s m args below meth c s₁ Bd hml0 hP hK
  obtain ⟨rfl, hZ, hh⟩ := hP
  have CX0 := CX
  obtain ⟨hw, S_ATOM, E_ATOM, S_RELEASE, E_RELEASE, S_TRIGGERED, E_TRIGGERED, S_WEAK_YESTERDAY, E_WEAK_YESTERDAY, S_NEXT, E_NEXT, S_AND, E_AND, S_UNTIL, E_UNTIL, S_OR, E_OR, S_SINCE, E_SINCE, S_YESTERDAY, E_YESTERDAY, O_ATOM, O_RELEASE, O_TRIGGERED, O_WEAK_YESTERDAY, O_NEXT, O_AND, O_UNTIL, O_OR, O_SINCE, O_YESTERDAY, -⟩ := CX0
  have hx := Bd.exec
  have hby := Bd.bytes
  have hml : c.maxLocals = 1 := hml0
  have hown : s.vm.findClass "com/example/sundew/sundew/check/KindIsWeakPinLaw" = some m.cls := findClass_of_methodNamed Bd.named
  have hnm := (name_of_methodNamed Bd.named Bd.method).1
  have hlk : meth.locks = false := BodyLoose.notSynchronized Bd
  have X0 : Stand p l e ({ frames := 0, cells := 0, slots := 0, locals := 0 } : Room) s m #[(.int p1)] below meth c s₁ [] 0 0 := Stand.of_body Bd
  have e0 : s₁.heap = h0 := by rw [← hh, Bd.state]; rfl
  have N := Fr.nil Z.heap.size
  show own_Done p.tables e below (own_R (Q1 Z (.ref r) h0) s 0 0) s₁ (entryFrame m #[(.int p1)] 1)
  refine own_st (T' := s₁) (F' := (mkF m 0 #[.val (.int p1)] [])) (fun t k => castTop (by first | rfl | (simp [entryFrame, mkF, argsToLocals, Value.category]; done)) k) ?_
  refine own_st (T' := s₁) (F' := (mkF m 1 #[.val (.int p1)] [(.int p1)])) (fun t k => XS.iloadN X0.here hx rfl (hb hby d1_0) rfl k) ?_
  by_cases hc1_1 : p1 = (0 : Int32)
  · refine own_st (T' := s₁) (F' := (mkF m 4 #[.val (.int p1)] [])) (fun t k => XS.ifNo X0.here hx rfl (hb hby d1_1) rfl ((if0 _ _).trans (teq hc1_1).2) k) ?_
    obtain ⟨T2, X2, e2, st2⟩ := getS2 X0 hx hZ hown (host := "") (Or.inl (hw _ (List.mem_of_getElem? (i := 5) rfl))) Via.refl e0 (S_ATOM.ext O) (g := (mkF m 4 #[.val (.int p1)] [])) rfl (hb hby d1_4)
    refine own_st (T' := T2) (F' := (mkF m 7 #[.val (.int p1)] [(.ref w_ATOM)])) st2 ?_
    exact own_retA X2 hx (t := (.object "com/example/sundew/sundew/check/LtlFormulas$Kind")) Bd.returns rfl rfl (hb hby d1_7) hlk (by show Q1 Z (.ref r) h0 _ T2.heap _; rw [e2]; exact ⟨by simp [hr, hc1_1], N, rfl⟩) (by decide) (by decide)
  · refine own_st (T' := s₁) (F' := (mkF m 8 #[.val (.int p1)] [])) (fun t k => XS.ifYes X0.here hx rfl (pc0 := 1) (pc' := 8) rfl (hb hby d1_1) rfl ((if0 _ _).trans (feq hc1_1).2) (by decide) (by decide) k) ?_
    refine own_st (T' := s₁) (F' := (mkF m 9 #[.val (.int p1)] [(.int p1)])) (fun t k => XS.iloadN X0.here hx rfl (hb hby d1_8) rfl k) ?_
    refine own_st (T' := s₁) (F' := (mkF m 10 #[.val (.int p1)] [(.int (1 : Int32)), (.int p1)])) (fun t k => XS.iconst X0.here hx rfl (hb hby d1_9) k) ?_
    by_cases hc10_3 : p1 = (1 : Int32)
    · refine own_st (T' := s₁) (F' := (mkF m 13 #[.val (.int p1)] [])) (fun t k => XS.icmpNo X0.here hx rfl (hb hby d1_10) rfl (teq hc10_3).2 k) ?_
      obtain ⟨T4, X4, e4, st4⟩ := getS2 X0 hx hZ hown (host := "") (Or.inl (hw _ (List.mem_of_getElem? (i := 21) rfl))) Via.refl e0 (S_AND.ext O) (g := (mkF m 13 #[.val (.int p1)] [])) rfl (hb hby d1_13)
      refine own_st (T' := T4) (F' := (mkF m 16 #[.val (.int p1)] [(.ref w_AND)])) st4 ?_
      exact own_retA X4 hx (t := (.object "com/example/sundew/sundew/check/LtlFormulas$Kind")) Bd.returns rfl rfl (hb hby d1_16) hlk (by show Q1 Z (.ref r) h0 _ T4.heap _; rw [e4]; exact ⟨by simp [hr, hc1_1, hc10_3], N, rfl⟩) (by decide) (by decide)
    · refine own_st (T' := s₁) (F' := (mkF m 17 #[.val (.int p1)] [])) (fun t k => XS.icmpYes X0.here hx rfl (pc0 := 10) (pc' := 17) rfl (hb hby d1_10) rfl (feq hc10_3).2 (by decide) (by decide) k) ?_
      refine own_st (T' := s₁) (F' := (mkF m 18 #[.val (.int p1)] [(.int p1)])) (fun t k => XS.iloadN X0.here hx rfl (hb hby d1_17) rfl k) ?_
      refine own_st (T' := s₁) (F' := (mkF m 19 #[.val (.int p1)] [(.int (2 : Int32)), (.int p1)])) (fun t k => XS.iconst X0.here hx rfl (hb hby d1_18) k) ?_
      by_cases hc19_5 : p1 = (2 : Int32)
      · refine own_st (T' := s₁) (F' := (mkF m 22 #[.val (.int p1)] [])) (fun t k => XS.icmpNo X0.here hx rfl (hb hby d1_19) rfl (teq hc19_5).2 k) ?_
        obtain ⟨T6, X6, e6, st6⟩ := getS2 X0 hx hZ hown (host := "") (Or.inl (hw _ (List.mem_of_getElem? (i := 26) rfl))) Via.refl e0 (S_OR.ext O) (g := (mkF m 22 #[.val (.int p1)] [])) rfl (hb hby d1_22)
        refine own_st (T' := T6) (F' := (mkF m 25 #[.val (.int p1)] [(.ref w_OR)])) st6 ?_
        exact own_retA X6 hx (t := (.object "com/example/sundew/sundew/check/LtlFormulas$Kind")) Bd.returns rfl rfl (hb hby d1_25) hlk (by show Q1 Z (.ref r) h0 _ T6.heap _; rw [e6]; exact ⟨by simp [hr, hc1_1, hc10_3, hc19_5], N, rfl⟩) (by decide) (by decide)
      · refine own_st (T' := s₁) (F' := (mkF m 26 #[.val (.int p1)] [])) (fun t k => XS.icmpYes X0.here hx rfl (pc0 := 19) (pc' := 26) rfl (hb hby d1_19) rfl (feq hc19_5).2 (by decide) (by decide) k) ?_
        refine own_st (T' := s₁) (F' := (mkF m 27 #[.val (.int p1)] [(.int p1)])) (fun t k => XS.iloadN X0.here hx rfl (hb hby d1_26) rfl k) ?_
        refine own_st (T' := s₁) (F' := (mkF m 28 #[.val (.int p1)] [(.int (3 : Int32)), (.int p1)])) (fun t k => XS.iconst X0.here hx rfl (hb hby d1_27) k) ?_
        by_cases hc28_7 : p1 = (3 : Int32)
        · refine own_st (T' := s₁) (F' := (mkF m 31 #[.val (.int p1)] [])) (fun t k => XS.icmpNo X0.here hx rfl (hb hby d1_28) rfl (teq hc28_7).2 k) ?_
          obtain ⟨T8, X8, e8, st8⟩ := getS2 X0 hx hZ hown (host := "") (Or.inl (hw _ (List.mem_of_getElem? (i := 19) rfl))) Via.refl e0 (S_NEXT.ext O) (g := (mkF m 31 #[.val (.int p1)] [])) rfl (hb hby d1_31)
          refine own_st (T' := T8) (F' := (mkF m 34 #[.val (.int p1)] [(.ref w_NEXT)])) st8 ?_
          exact own_retA X8 hx (t := (.object "com/example/sundew/sundew/check/LtlFormulas$Kind")) Bd.returns rfl rfl (hb hby d1_34) hlk (by show Q1 Z (.ref r) h0 _ T8.heap _; rw [e8]; exact ⟨by simp [hr, hc1_1, hc10_3, hc19_5, hc28_7], N, rfl⟩) (by decide) (by decide)
        · refine own_st (T' := s₁) (F' := (mkF m 35 #[.val (.int p1)] [])) (fun t k => XS.icmpYes X0.here hx rfl (pc0 := 28) (pc' := 35) rfl (hb hby d1_28) rfl (feq hc28_7).2 (by decide) (by decide) k) ?_
          refine own_st (T' := s₁) (F' := (mkF m 36 #[.val (.int p1)] [(.int p1)])) (fun t k => XS.iloadN X0.here hx rfl (hb hby d1_35) rfl k) ?_
          refine own_st (T' := s₁) (F' := (mkF m 37 #[.val (.int p1)] [(.int (4 : Int32)), (.int p1)])) (fun t k => XS.iconst X0.here hx rfl (hb hby d1_36) k) ?_
          by_cases hc37_9 : p1 = (4 : Int32)
          · refine own_st (T' := s₁) (F' := (mkF m 40 #[.val (.int p1)] [])) (fun t k => XS.icmpNo X0.here hx rfl (hb hby d1_37) rfl (teq hc37_9).2 k) ?_
            obtain ⟨T10, X10, e10, st10⟩ := getS2 X0 hx hZ hown (host := "") (Or.inl (hw _ (List.mem_of_getElem? (i := 23) rfl))) Via.refl e0 (S_UNTIL.ext O) (g := (mkF m 40 #[.val (.int p1)] [])) rfl (hb hby d1_40)
            refine own_st (T' := T10) (F' := (mkF m 43 #[.val (.int p1)] [(.ref w_UNTIL)])) st10 ?_
            exact own_retA X10 hx (t := (.object "com/example/sundew/sundew/check/LtlFormulas$Kind")) Bd.returns rfl rfl (hb hby d1_43) hlk (by show Q1 Z (.ref r) h0 _ T10.heap _; rw [e10]; exact ⟨by simp [hr, hc1_1, hc10_3, hc19_5, hc28_7, hc37_9], N, rfl⟩) (by decide) (by decide)
          · refine own_st (T' := s₁) (F' := (mkF m 44 #[.val (.int p1)] [])) (fun t k => XS.icmpYes X0.here hx rfl (pc0 := 37) (pc' := 44) rfl (hb hby d1_37) rfl (feq hc37_9).2 (by decide) (by decide) k) ?_
            refine own_st (T' := s₁) (F' := (mkF m 45 #[.val (.int p1)] [(.int p1)])) (fun t k => XS.iloadN X0.here hx rfl (hb hby d1_44) rfl k) ?_
            refine own_st (T' := s₁) (F' := (mkF m 46 #[.val (.int p1)] [(.int (5 : Int32)), (.int p1)])) (fun t k => XS.iconst X0.here hx rfl (hb hby d1_45) k) ?_
            by_cases hc46_11 : p1 = (5 : Int32)
            · refine own_st (T' := s₁) (F' := (mkF m 49 #[.val (.int p1)] [])) (fun t k => XS.icmpNo X0.here hx rfl (hb hby d1_46) rfl (teq hc46_11).2 k) ?_
              obtain ⟨T12, X12, e12, st12⟩ := getS2 X0 hx hZ hown (host := "") (Or.inl (hw _ (List.mem_of_getElem? (i := 31) rfl))) Via.refl e0 (S_RELEASE.ext O) (g := (mkF m 49 #[.val (.int p1)] [])) rfl (hb hby d1_49)
              refine own_st (T' := T12) (F' := (mkF m 52 #[.val (.int p1)] [(.ref w_RELEASE)])) st12 ?_
              exact own_retA X12 hx (t := (.object "com/example/sundew/sundew/check/LtlFormulas$Kind")) Bd.returns rfl rfl (hb hby d1_52) hlk (by show Q1 Z (.ref r) h0 _ T12.heap _; rw [e12]; exact ⟨by simp [hr, hc1_1, hc10_3, hc19_5, hc28_7, hc37_9, hc46_11], N, rfl⟩) (by decide) (by decide)
            · refine own_st (T' := s₁) (F' := (mkF m 53 #[.val (.int p1)] [])) (fun t k => XS.icmpYes X0.here hx rfl (pc0 := 46) (pc' := 53) rfl (hb hby d1_46) rfl (feq hc46_11).2 (by decide) (by decide) k) ?_
              refine own_st (T' := s₁) (F' := (mkF m 54 #[.val (.int p1)] [(.int p1)])) (fun t k => XS.iloadN X0.here hx rfl (hb hby d1_53) rfl k) ?_
              refine own_st (T' := s₁) (F' := (mkF m 56 #[.val (.int p1)] [(.int (6 : Int32)), (.int p1)])) (fun t k => XS.bipush X0.here hx rfl (hb hby d1_54) k) ?_
              by_cases hc56_13 : p1 = (6 : Int32)
              · refine own_st (T' := s₁) (F' := (mkF m 59 #[.val (.int p1)] [])) (fun t k => XS.icmpNo X0.here hx rfl (hb hby d1_56) rfl (teq hc56_13).2 k) ?_
                obtain ⟨T14, X14, e14, st14⟩ := getS2 X0 hx hZ hown (host := "") (Or.inl (hw _ (List.mem_of_getElem? (i := 32) rfl))) Via.refl e0 (S_YESTERDAY.ext O) (g := (mkF m 59 #[.val (.int p1)] [])) rfl (hb hby d1_59)
                refine own_st (T' := T14) (F' := (mkF m 62 #[.val (.int p1)] [(.ref w_YESTERDAY)])) st14 ?_
                exact own_retA X14 hx (t := (.object "com/example/sundew/sundew/check/LtlFormulas$Kind")) Bd.returns rfl rfl (hb hby d1_62) hlk (by show Q1 Z (.ref r) h0 _ T14.heap _; rw [e14]; exact ⟨by simp [hr, hc1_1, hc10_3, hc19_5, hc28_7, hc37_9, hc46_11, hc56_13], N, rfl⟩) (by decide) (by decide)
              · refine own_st (T' := s₁) (F' := (mkF m 63 #[.val (.int p1)] [])) (fun t k => XS.icmpYes X0.here hx rfl (pc0 := 56) (pc' := 63) rfl (hb hby d1_56) rfl (feq hc56_13).2 (by decide) (by decide) k) ?_
                refine own_st (T' := s₁) (F' := (mkF m 64 #[.val (.int p1)] [(.int p1)])) (fun t k => XS.iloadN X0.here hx rfl (hb hby d1_63) rfl k) ?_
                refine own_st (T' := s₁) (F' := (mkF m 66 #[.val (.int p1)] [(.int (7 : Int32)), (.int p1)])) (fun t k => XS.bipush X0.here hx rfl (hb hby d1_64) k) ?_
                by_cases hc66_15 : p1 = (7 : Int32)
                · refine own_st (T' := s₁) (F' := (mkF m 69 #[.val (.int p1)] [])) (fun t k => XS.icmpNo X0.here hx rfl (hb hby d1_66) rfl (teq hc66_15).2 k) ?_
                  obtain ⟨T16, X16, e16, st16⟩ := getS2 X0 hx hZ hown (host := "") (Or.inl (hw _ (List.mem_of_getElem? (i := 25) rfl))) Via.refl e0 (S_WEAK_YESTERDAY.ext O) (g := (mkF m 69 #[.val (.int p1)] [])) rfl (hb hby d1_69)
                  refine own_st (T' := T16) (F' := (mkF m 72 #[.val (.int p1)] [(.ref w_WEAK_YESTERDAY)])) st16 ?_
                  exact own_retA X16 hx (t := (.object "com/example/sundew/sundew/check/LtlFormulas$Kind")) Bd.returns rfl rfl (hb hby d1_72) hlk (by show Q1 Z (.ref r) h0 _ T16.heap _; rw [e16]; exact ⟨by simp [hr, hc1_1, hc10_3, hc19_5, hc28_7, hc37_9, hc46_11, hc56_13, hc66_15], N, rfl⟩) (by decide) (by decide)
                · refine own_st (T' := s₁) (F' := (mkF m 73 #[.val (.int p1)] [])) (fun t k => XS.icmpYes X0.here hx rfl (pc0 := 66) (pc' := 73) rfl (hb hby d1_66) rfl (feq hc66_15).2 (by decide) (by decide) k) ?_
                  refine own_st (T' := s₁) (F' := (mkF m 74 #[.val (.int p1)] [(.int p1)])) (fun t k => XS.iloadN X0.here hx rfl (hb hby d1_73) rfl k) ?_
                  refine own_st (T' := s₁) (F' := (mkF m 76 #[.val (.int p1)] [(.int (8 : Int32)), (.int p1)])) (fun t k => XS.bipush X0.here hx rfl (hb hby d1_74) k) ?_
                  by_cases hc76_17 : p1 = (8 : Int32)
                  · refine own_st (T' := s₁) (F' := (mkF m 79 #[.val (.int p1)] [])) (fun t k => XS.icmpNo X0.here hx rfl (hb hby d1_76) rfl (teq hc76_17).2 k) ?_
                    obtain ⟨T18, X18, e18, st18⟩ := getS2 X0 hx hZ hown (host := "") (Or.inl (hw _ (List.mem_of_getElem? (i := 28) rfl))) Via.refl e0 (S_SINCE.ext O) (g := (mkF m 79 #[.val (.int p1)] [])) rfl (hb hby d1_79)
                    refine own_st (T' := T18) (F' := (mkF m 82 #[.val (.int p1)] [(.ref w_SINCE)])) st18 ?_
                    exact own_retA X18 hx (t := (.object "com/example/sundew/sundew/check/LtlFormulas$Kind")) Bd.returns rfl rfl (hb hby d1_82) hlk (by show Q1 Z (.ref r) h0 _ T18.heap _; rw [e18]; exact ⟨by simp [hr, hc1_1, hc10_3, hc19_5, hc28_7, hc37_9, hc46_11, hc56_13, hc66_15, hc76_17], N, rfl⟩) (by decide) (by decide)
                  · refine own_st (T' := s₁) (F' := (mkF m 83 #[.val (.int p1)] [])) (fun t k => XS.icmpYes X0.here hx rfl (pc0 := 76) (pc' := 83) rfl (hb hby d1_76) rfl (feq hc76_17).2 (by decide) (by decide) k) ?_
                    obtain ⟨T19, X19, e19, st19⟩ := getS2 X0 hx hZ hown (host := "") (Or.inl (hw _ (List.mem_of_getElem? (i := 30) rfl))) Via.refl e0 (S_TRIGGERED.ext O) (g := (mkF m 83 #[.val (.int p1)] [])) rfl (hb hby d1_83)
                    refine own_st (T' := T19) (F' := (mkF m 86 #[.val (.int p1)] [(.ref w_TRIGGERED)])) st19 ?_
                    exact own_retA X19 hx (t := (.object "com/example/sundew/sundew/check/LtlFormulas$Kind")) Bd.returns rfl rfl (hb hby d1_86) hlk (by show Q1 Z (.ref r) h0 _ T19.heap _; rw [e19]; exact ⟨by simp [hr, hc1_1, hc10_3, hc19_5, hc28_7, hc37_9, hc46_11, hc56_13, hc66_15, hc76_17], N, rfl⟩) (by decide) (by decide)
theorem d2_0 : decode prog_29_method_6_code 0 = .ok (.aload_n 0, 1) := by decide +kernel
theorem d2_1 : decode prog_29_method_6_code 1 = .ok (.getstatic 19, 3) := by decide +kernel
theorem d2_4 : decode prog_29_method_6_code 4 = .ok (.if_acmp .eq 17, 3) := by decide +kernel
theorem d2_7 : decode prog_29_method_6_code 7 = .ok (.aload_n 0, 1) := by decide +kernel
theorem d2_8 : decode prog_29_method_6_code 8 = .ok (.getstatic 31, 3) := by decide +kernel
theorem d2_11 : decode prog_29_method_6_code 11 = .ok (.if_acmp .eq 10, 3) := by decide +kernel
theorem d2_14 : decode prog_29_method_6_code 14 = .ok (.aload_n 0, 1) := by decide +kernel
theorem d2_15 : decode prog_29_method_6_code 15 = .ok (.getstatic 25, 3) := by decide +kernel
theorem d2_18 : decode prog_29_method_6_code 18 = .ok (.if_acmp .ne 7, 3) := by decide +kernel
theorem d2_21 : decode prog_29_method_6_code 21 = .ok (.iconst 1, 1) := by decide +kernel
theorem d2_22 : decode prog_29_method_6_code 22 = .ok (.goto 4, 3) := by decide +kernel
theorem d2_25 : decode prog_29_method_6_code 25 = .ok (.iconst 0, 1) := by decide +kernel
theorem d2_26 : decode prog_29_method_6_code 26 = .ok (.ireturn, 1) := by decide +kernel
theorem pn_1 : plainName "com/example/sundew/sundew/check/LtlFormulas$Kind" = true := by first | (simp [plainName, overriddenIn]; done) | decide +kernel
set_option maxRecDepth 65536 in
set_option maxHeartbeats 40000000 in
theorem rm2 (l : Launch) (Z : State) (a0 : Array Value) {w_ATOM : Addr} {w_RELEASE : Addr} {w_TRIGGERED : Addr} {w_WEAK_YESTERDAY : Addr} {w_NEXT : Addr} {w_AND : Addr} {w_UNTIL : Addr} {w_OR : Addr} {w_SINCE : Addr} {w_YESTERDAY : Addr} (CX : Ctx Z a0 w_ATOM w_RELEASE w_TRIGGERED w_WEAK_YESTERDAY w_NEXT w_AND w_UNTIL w_OR w_SINCE w_YESTERDAY) (ws : List Jvm.Cond) (a1 : Addr) (r : Int32) (h0 : Heap) (O : Ext Z.heap h0) (hr : r = if a1 = w_RELEASE then 1 else if a1 = w_TRIGGERED then 1 else if a1 = w_WEAK_YESTERDAY then 1 else 0) :
    MetFree l (⟨"com/example/sundew/sundew/check/LtlFormulas$Kind", "isWeak", "()Z"⟩ : MethodName) (head1 (Jvm.Cond.code (⟨"com/example/sundew/sundew/check/LtlFormulas$Kind", "isWeak", "()Z"⟩ : MethodName) prog_29_method_6_code 1 (some .boolean) :: ws) ({ frames := 0, cells := 0, slots := 0, locals := 0 } : Room)) (fun a U => a = #[(.ref a1)] ∧ Z.Warmed39 U.vm ∧ U.heap = h0) (fun _ _ _ _ _ => True) (fun _ U o U' => ∃ v L, o = .returned v ∧ Q1 Z (.int r) h0 v U'.heap L ∧ FrameEnd U o U' L ({ frames := 0, cells := 0, slots := 0, locals := 0 } : Room).cells ({ frames := 0, cells := 0, slots := 0, locals := 0 } : Room).slots) := by
  refine MetFree.of_bodySF (plainFor_of_name pn_1) hisR ?_
  intro p e s m args below meth c s₁ Bd hml0 hP hK
  obtain ⟨rfl, hZ, hh⟩ := hP
  have CX0 := CX
  obtain ⟨hw, S_ATOM, E_ATOM, S_RELEASE, E_RELEASE, S_TRIGGERED, E_TRIGGERED, S_WEAK_YESTERDAY, E_WEAK_YESTERDAY, S_NEXT, E_NEXT, S_AND, E_AND, S_UNTIL, E_UNTIL, S_OR, E_OR, S_SINCE, E_SINCE, S_YESTERDAY, E_YESTERDAY, O_ATOM, O_RELEASE, O_TRIGGERED, O_WEAK_YESTERDAY, O_NEXT, O_AND, O_UNTIL, O_OR, O_SINCE, O_YESTERDAY, -⟩ := CX0
  have hx := Bd.exec
  have hby := Bd.bytes
  have hml : c.maxLocals = 1 := hml0
  have hown : s.vm.findClass "com/example/sundew/sundew/check/LtlFormulas$Kind" = some m.cls := findClass_of_methodNamed Bd.named
  have hnm := (name_of_methodNamed Bd.named Bd.method).1
  have hlk : meth.locks = false := BodyLoose.notSynchronized Bd
  have X0 : Stand p l e ({ frames := 0, cells := 0, slots := 0, locals := 0 } : Room) s m #[(.ref a1)] below meth c s₁ [] 0 0 := Stand.of_body Bd
  have e0 : s₁.heap = h0 := by rw [← hh, Bd.state]; rfl
  have N := Fr.nil Z.heap.size
  show own_Done p.tables e below (own_R (Q1 Z (.int r) h0) s 0 0) s₁ (entryFrame m #[(.ref a1)] 1)
  refine own_st (T' := s₁) (F' := (mkF m 0 #[.val (.ref a1)] [])) (fun t k => castTop (by first | rfl | (simp [entryFrame, mkF, argsToLocals, Value.category]; done)) k) ?_
  refine own_st (T' := s₁) (F' := (mkF m 1 #[.val (.ref a1)] [(.ref a1)])) (fun t k => XS.aloadN X0.here hx rfl (hb hby d2_0) rfl rfl k) ?_
  obtain ⟨T1, X1, e1, st1⟩ := getS2 X0 hx hZ hown (host := "") (Or.inl (hw _ (List.mem_of_getElem? (i := 13) rfl))) Via.refl e0 (S_RELEASE.ext O) (g := (mkF m 1 #[.val (.ref a1)] [(.ref a1)])) rfl (hb hby d2_1)
  refine own_st (T' := T1) (F' := (mkF m 4 #[.val (.ref a1)] [(.ref w_RELEASE), (.ref a1)])) st1 ?_
  by_cases ha4_2 : a1 = w_RELEASE
  · refine own_st (T' := T1) (F' := (mkF m 21 #[.val (.ref a1)] [])) (fun t k => Jvm.RoadKit.acmp (g := (mkF m 4 #[.val (.ref a1)] [(.ref w_RELEASE), (.ref a1)])) X1 hx rfl rfl rfl (pc0 := 4) (pc' := 21) (same := true) rfl (hb hby d2_4) rfl (decide_eq_true (congrArg Value.ref ha4_2)) (by decide) (by decide) k) ?_
    refine own_st (T' := T1) (F' := (mkF m 22 #[.val (.ref a1)] [(.int (1 : Int32))])) (fun t k => XS.iconst X1.here hx rfl (hb hby d2_21) k) ?_
    refine own_st (T' := T1) (F' := (mkF m 26 #[.val (.ref a1)] [(.int (1 : Int32))])) (fun t k => XS.goto X1.here hx rfl (pc0 := 22) (pc' := 26) rfl (hb hby d2_22) (by decide) (by decide) k) ?_
    exact own_retN X1 hx (t := .boolean) Bd.returns (by simp) (by decide) (hb hby d2_26) hlk (by show Q1 Z (.int r) h0 _ T1.heap _; rw [e1]; exact ⟨by simp [hr, ha4_2], N, rfl⟩) (by decide) (by decide)
  · refine own_st (T' := T1) (F' := (mkF m 7 #[.val (.ref a1)] [])) (fun t k => Jvm.RoadKit.acmp (g := (mkF m 4 #[.val (.ref a1)] [(.ref w_RELEASE), (.ref a1)])) X1 hx rfl rfl rfl (pc0 := 4) (pc' := 7) (same := false) rfl (hb hby d2_4) rfl (decide_eq_false fun q => ha4_2 (Value.ref.inj q)) (by decide) (by decide) k) ?_
    refine own_st (T' := T1) (F' := (mkF m 8 #[.val (.ref a1)] [(.ref a1)])) (fun t k => XS.aloadN X1.here hx rfl (hb hby d2_7) rfl rfl k) ?_
    obtain ⟨T3, X3, e3, st3⟩ := getS2 X1 hx hZ hown (host := "") (Or.inl (hw _ (List.mem_of_getElem? (i := 15) rfl))) Via.refl e1 (S_TRIGGERED.ext O) (g := (mkF m 8 #[.val (.ref a1)] [(.ref a1)])) rfl (hb hby d2_8)
    refine own_st (T' := T3) (F' := (mkF m 11 #[.val (.ref a1)] [(.ref w_TRIGGERED), (.ref a1)])) st3 ?_
    by_cases ha11_4 : a1 = w_TRIGGERED
    · refine own_st (T' := T3) (F' := (mkF m 21 #[.val (.ref a1)] [])) (fun t k => Jvm.RoadKit.acmp (g := (mkF m 11 #[.val (.ref a1)] [(.ref w_TRIGGERED), (.ref a1)])) X3 hx rfl rfl rfl (pc0 := 11) (pc' := 21) (same := true) rfl (hb hby d2_11) rfl (decide_eq_true (congrArg Value.ref ha11_4)) (by decide) (by decide) k) ?_
      refine own_st (T' := T3) (F' := (mkF m 22 #[.val (.ref a1)] [(.int (1 : Int32))])) (fun t k => XS.iconst X3.here hx rfl (hb hby d2_21) k) ?_
      refine own_st (T' := T3) (F' := (mkF m 26 #[.val (.ref a1)] [(.int (1 : Int32))])) (fun t k => XS.goto X3.here hx rfl (pc0 := 22) (pc' := 26) rfl (hb hby d2_22) (by decide) (by decide) k) ?_
      exact own_retN X3 hx (t := .boolean) Bd.returns (by simp) (by decide) (hb hby d2_26) hlk (by show Q1 Z (.int r) h0 _ T3.heap _; rw [e3]; exact ⟨by simp [hr, ha4_2, ha11_4], N, rfl⟩) (by decide) (by decide)
    · refine own_st (T' := T3) (F' := (mkF m 14 #[.val (.ref a1)] [])) (fun t k => Jvm.RoadKit.acmp (g := (mkF m 11 #[.val (.ref a1)] [(.ref w_TRIGGERED), (.ref a1)])) X3 hx rfl rfl rfl (pc0 := 11) (pc' := 14) (same := false) rfl (hb hby d2_11) rfl (decide_eq_false fun q => ha11_4 (Value.ref.inj q)) (by decide) (by decide) k) ?_
      refine own_st (T' := T3) (F' := (mkF m 15 #[.val (.ref a1)] [(.ref a1)])) (fun t k => XS.aloadN X3.here hx rfl (hb hby d2_14) rfl rfl k) ?_
      obtain ⟨T5, X5, e5, st5⟩ := getS2 X3 hx hZ hown (host := "") (Or.inl (hw _ (List.mem_of_getElem? (i := 17) rfl))) Via.refl e3 (S_WEAK_YESTERDAY.ext O) (g := (mkF m 15 #[.val (.ref a1)] [(.ref a1)])) rfl (hb hby d2_15)
      refine own_st (T' := T5) (F' := (mkF m 18 #[.val (.ref a1)] [(.ref w_WEAK_YESTERDAY), (.ref a1)])) st5 ?_
      by_cases ha18_6 : a1 = w_WEAK_YESTERDAY
      · refine own_st (T' := T5) (F' := (mkF m 21 #[.val (.ref a1)] [])) (fun t k => Jvm.RoadKit.acmp (g := (mkF m 18 #[.val (.ref a1)] [(.ref w_WEAK_YESTERDAY), (.ref a1)])) X5 hx rfl rfl rfl (pc0 := 18) (pc' := 21) (same := true) rfl (hb hby d2_18) rfl (decide_eq_true (congrArg Value.ref ha18_6)) (by decide) (by decide) k) ?_
        refine own_st (T' := T5) (F' := (mkF m 22 #[.val (.ref a1)] [(.int (1 : Int32))])) (fun t k => XS.iconst X5.here hx rfl (hb hby d2_21) k) ?_
        refine own_st (T' := T5) (F' := (mkF m 26 #[.val (.ref a1)] [(.int (1 : Int32))])) (fun t k => XS.goto X5.here hx rfl (pc0 := 22) (pc' := 26) rfl (hb hby d2_22) (by decide) (by decide) k) ?_
        exact own_retN X5 hx (t := .boolean) Bd.returns (by simp) (by decide) (hb hby d2_26) hlk (by show Q1 Z (.int r) h0 _ T5.heap _; rw [e5]; exact ⟨by simp [hr, ha4_2, ha11_4, ha18_6], N, rfl⟩) (by decide) (by decide)
      · refine own_st (T' := T5) (F' := (mkF m 25 #[.val (.ref a1)] [])) (fun t k => Jvm.RoadKit.acmp (g := (mkF m 18 #[.val (.ref a1)] [(.ref w_WEAK_YESTERDAY), (.ref a1)])) X5 hx rfl rfl rfl (pc0 := 18) (pc' := 25) (same := false) rfl (hb hby d2_18) rfl (decide_eq_false fun q => ha18_6 (Value.ref.inj q)) (by decide) (by decide) k) ?_
        refine own_st (T' := T5) (F' := (mkF m 26 #[.val (.ref a1)] [(.int (0 : Int32))])) (fun t k => XS.iconst X5.here hx rfl (hb hby d2_25) k) ?_
        exact own_retN X5 hx (t := .boolean) Bd.returns (by simp) (by decide) (hb hby d2_26) hlk (by show Q1 Z (.int r) h0 _ T5.heap _; rw [e5]; exact ⟨by simp [hr, ha4_2, ha11_4, ha18_6], N, rfl⟩) (by decide) (by decide)
theorem pd_0 : parseMethodDescriptor "(I)Lcom/example/sundew/sundew/check/LtlFormulas$Kind;" = some ⟨[.int], some (.object "com/example/sundew/sundew/check/LtlFormulas$Kind")⟩ := by decide +kernel
theorem pd_1 : parseMethodDescriptor "()Z" = some ⟨[], some .boolean⟩ := by decide +kernel
set_option maxRecDepth 65536 in
set_option maxHeartbeats 40000000 in
theorem rm0 (l : Launch) (Z : State) (a0 : Array Value) {w_ATOM : Addr} {w_RELEASE : Addr} {w_TRIGGERED : Addr} {w_WEAK_YESTERDAY : Addr} {w_NEXT : Addr} {w_AND : Addr} {w_UNTIL : Addr} {w_OR : Addr} {w_SINCE : Addr} {w_YESTERDAY : Addr} (CX : Ctx Z a0 w_ATOM w_RELEASE w_TRIGGERED w_WEAK_YESTERDAY w_NEXT w_AND w_UNTIL w_OR w_SINCE w_YESTERDAY) (ws : List Jvm.Cond) (x0 : Int32) (h0 : Heap) (O : Ext Z.heap h0)  :
    MetFree l x (head1 (Jvm.Cond.code x code maxLocals ret :: ws) room_1) (fun a U => a = #[(.int x0)] ∧ Z.Warmed39 U.vm ∧ U.heap = h0) (fun _ _ _ _ _ => True) (fun _ U o U' => ∃ v L, o = .returned v ∧ Q0 Z v U'.heap L ∧ FrameEnd U o U' L room_1.cells room_1.slots) := by
  refine MetFree.of_bodySF (plainFor_of_name pn_0) hisR ?_
  intro p e s m args below meth c s₁ Bd hml0 hP hK
  obtain ⟨rfl, hZ, hh⟩ := hP
  have CX0 := CX
  obtain ⟨hw, S_ATOM, E_ATOM, S_RELEASE, E_RELEASE, S_TRIGGERED, E_TRIGGERED, S_WEAK_YESTERDAY, E_WEAK_YESTERDAY, S_NEXT, E_NEXT, S_AND, E_AND, S_UNTIL, E_UNTIL, S_OR, E_OR, S_SINCE, E_SINCE, S_YESTERDAY, E_YESTERDAY, O_ATOM, O_RELEASE, O_TRIGGERED, O_WEAK_YESTERDAY, O_NEXT, O_AND, O_UNTIL, O_OR, O_SINCE, O_YESTERDAY, -⟩ := CX0
  have hx := Bd.exec
  have hby := Bd.bytes
  have hml : c.maxLocals = 4 := hml0
  have hown : s.vm.findClass "com/example/sundew/sundew/check/KindIsWeakPinLaw" = some m.cls := findClass_of_methodNamed Bd.named
  have hnm := (name_of_methodNamed Bd.named Bd.method).1
  have hlk : meth.locks = false := BodyLoose.notSynchronized Bd
  have X0 : Stand p l e room_1 s m #[(.int x0)] below meth c s₁ [] 0 0 := Stand.of_body Bd
  have e0 : s₁.heap = h0 := by rw [← hh, Bd.state]; rfl
  have N := Fr.nil Z.heap.size
  show own_Done p.tables e below (own_R (Q0 Z) s 0 0) s₁ (entryFrame m #[(.int x0)] maxLocals)
  refine own_st (T' := s₁) (F' := (mkF m 0 #[.val (.int x0), .unset, .unset, .unset] [])) (fun t k => castTop (by first | rfl | (simp [entryFrame, mkF, argsToLocals, Value.category, maxLocals]; done)) k) ?_
  by_cases hk0_1 : ((x0 &&& (2147483647 : Int32)) % (10 : Int32)) = (0 : Int32)
  · refine own_st (T' := s₁) (F' := (mkF m 1 #[.val (.int x0), .unset, .unset, .unset] [(.int x0)])) (fun t k => XS.iloadN X0.here hx rfl (hb hby at_0) rfl k) ?_
    refine own_st (T' := s₁) (F' := (mkF m 3 #[.val (.int x0), .unset, .unset, .unset] [(.int (2147483647 : Int32)), (.int x0)])) (fun t k => X0.ldcInt hx hown (mvT hZ (hw _ (List.mem_of_getElem? (i := 0) rfl))) (g := (mkF m 1 #[.val (.int x0), .unset, .unset, .unset] [(.int x0)])) rfl (hb hby at_1) _ k) ?_
    refine own_st (T' := s₁) (F' := (mkF m 4 #[.val (.int x0), .unset, .unset, .unset] [(.int (x0 &&& (2147483647 : Int32)))])) (fun t k => XS.iand X0.here hx rfl (hb hby at_3) rfl k) ?_
    refine own_st (T' := s₁) (F' := (mkF m 6 #[.val (.int x0), .unset, .unset, .unset] [(.int (10 : Int32)), (.int (x0 &&& (2147483647 : Int32)))])) (fun t k => XS.bipush X0.here hx rfl (hb hby at_4) k) ?_
    refine own_st (T' := s₁) (F' := (mkF m 7 #[.val (.int x0), .unset, .unset, .unset] [(.int ((x0 &&& (2147483647 : Int32)) % (10 : Int32)))])) (fun t k => iremM (g := (mkF m 6 #[.val (.int x0), .unset, .unset, .unset] [(.int (10 : Int32)), (.int (x0 &&& (2147483647 : Int32)))])) X0 hx rfl (hb hby at_6) rfl (by decide) k) ?_
    refine own_st (T' := s₁) (F' := (mkF m 8 #[.val (.int x0), .val (.int ((x0 &&& (2147483647 : Int32)) % (10 : Int32))), .unset, .unset] [])) (fun t k => XS.istoreN X0.here hx rfl (hb hby at_7) rfl (l' := #[.val (.int x0), .val (.int ((x0 &&& (2147483647 : Int32)) % (10 : Int32))), .unset, .unset]) rfl k) ?_
    refine own_st (T' := s₁) (F' := (mkF m 9 #[.val (.int x0), .val (.int ((x0 &&& (2147483647 : Int32)) % (10 : Int32))), .unset, .unset] [(.int ((x0 &&& (2147483647 : Int32)) % (10 : Int32)))])) (fun t k => XS.iloadN X0.here hx rfl (hb hby at_8) rfl k) ?_
    obtain ⟨v2, _, ⟨T2, L2, k2, n2⟩, -, X2, ⟨Lc2, hQ2, l2, y2, z2⟩, st2⟩ := Jvm.LawKit.callS X0 hx (y := (⟨"com/example/sundew/sundew/check/KindIsWeakPinLaw", "pick", "(I)Lcom/example/sundew/sundew/check/LtlFormulas$Kind;"⟩ : MethodName)) hown (mvT hZ (hw _ (List.mem_of_getElem? (i := 1) rfl))) (mvT hZ (hw _ (List.mem_of_getElem? (i := 2) rfl))) (mvT hZ (hw _ (List.mem_of_getElem? (i := 3) rfl))) (mvT hZ (hw _ (List.mem_of_getElem? (i := 4) rfl))) (by decide) (backOf (W := 0) (rm1 l Z a0 CX [] ((x0 &&& (2147483647 : Int32)) % (10 : Int32)) w_ATOM h0 O (by simp [hk0_1])) hZ (hw _ (List.mem_of_getElem? (i := 4) rfl)) (hw _ (List.mem_of_getElem? (i := 3) rfl)) (by decide) (by decide)) (g := (mkF m 9 #[.val (.int x0), .val (.int ((x0 &&& (2147483647 : Int32)) % (10 : Int32))), .unset, .unset] [(.int ((x0 &&& (2147483647 : Int32)) % (10 : Int32)))])) rfl (by rw [hml]; rfl) (argsL := [(.int ((x0 &&& (2147483647 : Int32)) % (10 : Int32)))]) (rest := []) (lenOf pd_0 rfl) rfl (by show 2 * 0 + _ ≤ _; exact Nat.le_of_eq rfl) (hb hby at_9) (fun _ _ => ⟨rfl, e0, (by decide : 0 + 0 ≤ _), (by decide : 0 + 0 ≤ _)⟩)
    dsimp only [Pt.U, Pt.locs, Pt.cells, Pt.slots] at X2 l2 y2 z2 st2 hQ2
    subst l2 y2 z2
    obtain ⟨rfl, N2q, e2⟩ := hQ2
    have N := Fr.app N N2q
    refine own_st (T' := T2) (F' := (mkF m 12 #[.val (.int x0), .val (.int ((x0 &&& (2147483647 : Int32)) % (10 : Int32))), .unset, .unset] [(.ref w_ATOM)])) st2 ?_
    refine own_st (T' := T2) (F' := (mkF m 13 #[.val (.int x0), .val (.int ((x0 &&& (2147483647 : Int32)) % (10 : Int32))), .val (.ref w_ATOM), .unset] [])) (fun t k => XS.astoreN X2.here hx rfl (hb hby at_12) rfl rfl (l' := #[.val (.int x0), .val (.int ((x0 &&& (2147483647 : Int32)) % (10 : Int32))), .val (.ref w_ATOM), .unset]) rfl k) ?_
    refine own_st (T' := T2) (F' := (mkF m 14 #[.val (.int x0), .val (.int ((x0 &&& (2147483647 : Int32)) % (10 : Int32))), .val (.ref w_ATOM), .unset] [(.int ((x0 &&& (2147483647 : Int32)) % (10 : Int32)))])) (fun t k => XS.iloadN X2.here hx rfl (hb hby at_13) rfl k) ?_
    refine own_st (T' := T2) (F' := (mkF m 15 #[.val (.int x0), .val (.int ((x0 &&& (2147483647 : Int32)) % (10 : Int32))), .val (.ref w_ATOM), .unset] [(.int (5 : Int32)), (.int ((x0 &&& (2147483647 : Int32)) % (10 : Int32)))])) (fun t k => XS.iconst X2.here hx rfl (hb hby at_14) k) ?_
    refine own_st (T' := T2) (F' := (mkF m 18 #[.val (.int x0), .val (.int ((x0 &&& (2147483647 : Int32)) % (10 : Int32))), .val (.ref w_ATOM), .unset] [])) (fun t k => XS.icmpNo X2.here hx rfl (hb hby at_15) rfl (feq (fun q => absurd (hk0_1.symm.trans q) (by decide))).1 k) ?_
    refine own_st (T' := T2) (F' := (mkF m 19 #[.val (.int x0), .val (.int ((x0 &&& (2147483647 : Int32)) % (10 : Int32))), .val (.ref w_ATOM), .unset] [(.int ((x0 &&& (2147483647 : Int32)) % (10 : Int32)))])) (fun t k => XS.iloadN X2.here hx rfl (hb hby at_18) rfl k) ?_
    refine own_st (T' := T2) (F' := (mkF m 21 #[.val (.int x0), .val (.int ((x0 &&& (2147483647 : Int32)) % (10 : Int32))), .val (.ref w_ATOM), .unset] [(.int (7 : Int32)), (.int ((x0 &&& (2147483647 : Int32)) % (10 : Int32)))])) (fun t k => XS.bipush X2.here hx rfl (hb hby at_19) k) ?_
    refine own_st (T' := T2) (F' := (mkF m 24 #[.val (.int x0), .val (.int ((x0 &&& (2147483647 : Int32)) % (10 : Int32))), .val (.ref w_ATOM), .unset] [])) (fun t k => XS.icmpNo X2.here hx rfl (hb hby at_21) rfl (feq (fun q => absurd (hk0_1.symm.trans q) (by decide))).1 k) ?_
    refine own_st (T' := T2) (F' := (mkF m 25 #[.val (.int x0), .val (.int ((x0 &&& (2147483647 : Int32)) % (10 : Int32))), .val (.ref w_ATOM), .unset] [(.int ((x0 &&& (2147483647 : Int32)) % (10 : Int32)))])) (fun t k => XS.iloadN X2.here hx rfl (hb hby at_24) rfl k) ?_
    refine own_st (T' := T2) (F' := (mkF m 27 #[.val (.int x0), .val (.int ((x0 &&& (2147483647 : Int32)) % (10 : Int32))), .val (.ref w_ATOM), .unset] [(.int (9 : Int32)), (.int ((x0 &&& (2147483647 : Int32)) % (10 : Int32)))])) (fun t k => XS.bipush X2.here hx rfl (hb hby at_25) k) ?_
    refine own_st (T' := T2) (F' := (mkF m 34 #[.val (.int x0), .val (.int ((x0 &&& (2147483647 : Int32)) % (10 : Int32))), .val (.ref w_ATOM), .unset] [])) (fun t k => XS.icmpYes X2.here hx rfl (pc0 := 27) (pc' := 34) rfl (hb hby at_27) rfl (feq (fun q => absurd (hk0_1.symm.trans q) (by decide))).2 (by decide) (by decide) k) ?_
    refine own_st (T' := T2) (F' := (mkF m 35 #[.val (.int x0), .val (.int ((x0 &&& (2147483647 : Int32)) % (10 : Int32))), .val (.ref w_ATOM), .unset] [(.int (0 : Int32))])) (fun t k => XS.iconst X2.here hx rfl (hb hby at_34) k) ?_
    refine own_st (T' := T2) (F' := (mkF m 36 #[.val (.int x0), .val (.int ((x0 &&& (2147483647 : Int32)) % (10 : Int32))), .val (.ref w_ATOM), .val (.int (0 : Int32))] [])) (fun t k => XS.istoreN X2.here hx rfl (hb hby at_35) rfl (l' := #[.val (.int x0), .val (.int ((x0 &&& (2147483647 : Int32)) % (10 : Int32))), .val (.ref w_ATOM), .val (.int (0 : Int32))]) rfl k) ?_
    refine own_st (T' := T2) (F' := (mkF m 37 #[.val (.int x0), .val (.int ((x0 &&& (2147483647 : Int32)) % (10 : Int32))), .val (.ref w_ATOM), .val (.int (0 : Int32))] [(.ref w_ATOM)])) (fun t k => XS.aloadN X2.here hx rfl (hb hby at_36) rfl rfl k) ?_
    obtain ⟨cq3, kq3, q3a, q3b, q3c⟩ := isOf hZ e2 (E_ATOM.ext O)
    obtain ⟨v3, _, ⟨T3, L3, k3, n3⟩, -, X3, ⟨Lc3, hQ3, l3, y3, z3⟩, st3⟩ := X2.virtualBack hx (y := (⟨"com/example/sundew/sundew/check/LtlFormulas$Kind", "isWeak", "()Z"⟩ : MethodName)) (z := (⟨"com/example/sundew/sundew/check/LtlFormulas$Kind", "isWeak", "()Z"⟩ : MethodName)) hown (mvT hZ (hw _ (List.mem_of_getElem? (i := 8) rfl))) (mvT hZ (hw _ (List.mem_of_getElem? (i := 9) rfl))) (notFace_of_selects (args := #[]) (mvT hZ (hw _ (List.mem_of_getElem? (i := 11) rfl)))) (mvT hZ (hw _ (List.mem_of_getElem? (i := 11) rfl))) (mvT hZ (hw _ (List.mem_of_getElem? (i := 10) rfl))) (by decide) (backOf (W := 0) (rm2 l Z a0 CX [] w_ATOM (0 : Int32) h0 O (by simp [(O_ATOM.ne O_RELEASE (by decide)), (O_ATOM.ne O_TRIGGERED (by decide)), (O_ATOM.ne O_WEAK_YESTERDAY (by decide))])) hZ (hw _ (List.mem_of_getElem? (i := 12) rfl)) (hw _ (List.mem_of_getElem? (i := 6) rfl)) (by decide) (by decide)) q3a q3c (g := (mkF m 37 #[.val (.int x0), .val (.int ((x0 &&& (2147483647 : Int32)) % (10 : Int32))), .val (.ref w_ATOM), .val (.int (0 : Int32))] [(.ref w_ATOM)])) rfl (by rw [hml]; rfl) (Steps.refl _) (argsL := []) (rest := []) (lenOf pd_1 rfl) rfl (by show 2 * 0 + _ ≤ _; exact Nat.le_of_eq rfl) (hb hby at_37) (fun _ _ => ⟨rfl, e2, (by decide : 0 + 0 ≤ _), (by decide : 0 + 0 ≤ _)⟩)
    dsimp only [Pt.U, Pt.locs, Pt.cells, Pt.slots] at X3 l3 y3 z3 st3 hQ3
    subst l3 y3 z3
    obtain ⟨rfl, N3q, e3⟩ := hQ3
    have N := Fr.app N N3q
    refine own_tr (T' := T3) (F' := (mkF m 40 #[.val (.int x0), .val (.int ((x0 &&& (2147483647 : Int32)) % (10 : Int32))), .val (.ref w_ATOM), .val (.int (0 : Int32))] [(.int (0 : Int32))])) st3 ?_
    refine own_st (T' := T3) (F' := (mkF m 41 #[.val (.int x0), .val (.int ((x0 &&& (2147483647 : Int32)) % (10 : Int32))), .val (.ref w_ATOM), .val (.int (0 : Int32))] [(.int (0 : Int32)), (.int (0 : Int32))])) (fun t k => XS.iloadN X3.here hx rfl (hb hby at_40) rfl k) ?_
    refine own_st (T' := T3) (F' := (mkF m 44 #[.val (.int x0), .val (.int ((x0 &&& (2147483647 : Int32)) % (10 : Int32))), .val (.ref w_ATOM), .val (.int (0 : Int32))] [])) (fun t k => XS.icmpNo X3.here hx rfl (hb hby at_41) rfl (teq rfl).2 k) ?_
    refine own_st (T' := T3) (F' := (mkF m 45 #[.val (.int x0), .val (.int ((x0 &&& (2147483647 : Int32)) % (10 : Int32))), .val (.ref w_ATOM), .val (.int (0 : Int32))] [(.int (1 : Int32))])) (fun t k => XS.iconst X3.here hx rfl (hb hby at_44) k) ?_
    refine own_st (T' := T3) (F' := (mkF m 49 #[.val (.int x0), .val (.int ((x0 &&& (2147483647 : Int32)) % (10 : Int32))), .val (.ref w_ATOM), .val (.int (0 : Int32))] [(.int (1 : Int32))])) (fun t k => XS.goto X3.here hx rfl (pc0 := 45) (pc' := 49) rfl (hb hby at_45) (by decide) (by decide) k) ?_
    exact own_retN X3 hx (t := .boolean) Bd.returns (by simp) (by decide) (hb hby at_49) hlk (by show Q0 Z _ T3.heap _; rw [e3]; exact ⟨rfl, N⟩) (by decide) (by decide)
  · by_cases hk1_4 : ((x0 &&& (2147483647 : Int32)) % (10 : Int32)) = (1 : Int32)
    · refine own_st (T' := s₁) (F' := (mkF m 1 #[.val (.int x0), .unset, .unset, .unset] [(.int x0)])) (fun t k => XS.iloadN X0.here hx rfl (hb hby at_0) rfl k) ?_
      refine own_st (T' := s₁) (F' := (mkF m 3 #[.val (.int x0), .unset, .unset, .unset] [(.int (2147483647 : Int32)), (.int x0)])) (fun t k => X0.ldcInt hx hown (mvT hZ (hw _ (List.mem_of_getElem? (i := 0) rfl))) (g := (mkF m 1 #[.val (.int x0), .unset, .unset, .unset] [(.int x0)])) rfl (hb hby at_1) _ k) ?_
      refine own_st (T' := s₁) (F' := (mkF m 4 #[.val (.int x0), .unset, .unset, .unset] [(.int (x0 &&& (2147483647 : Int32)))])) (fun t k => XS.iand X0.here hx rfl (hb hby at_3) rfl k) ?_
      refine own_st (T' := s₁) (F' := (mkF m 6 #[.val (.int x0), .unset, .unset, .unset] [(.int (10 : Int32)), (.int (x0 &&& (2147483647 : Int32)))])) (fun t k => XS.bipush X0.here hx rfl (hb hby at_4) k) ?_
      refine own_st (T' := s₁) (F' := (mkF m 7 #[.val (.int x0), .unset, .unset, .unset] [(.int ((x0 &&& (2147483647 : Int32)) % (10 : Int32)))])) (fun t k => iremM (g := (mkF m 6 #[.val (.int x0), .unset, .unset, .unset] [(.int (10 : Int32)), (.int (x0 &&& (2147483647 : Int32)))])) X0 hx rfl (hb hby at_6) rfl (by decide) k) ?_
      refine own_st (T' := s₁) (F' := (mkF m 8 #[.val (.int x0), .val (.int ((x0 &&& (2147483647 : Int32)) % (10 : Int32))), .unset, .unset] [])) (fun t k => XS.istoreN X0.here hx rfl (hb hby at_7) rfl (l' := #[.val (.int x0), .val (.int ((x0 &&& (2147483647 : Int32)) % (10 : Int32))), .unset, .unset]) rfl k) ?_
      refine own_st (T' := s₁) (F' := (mkF m 9 #[.val (.int x0), .val (.int ((x0 &&& (2147483647 : Int32)) % (10 : Int32))), .unset, .unset] [(.int ((x0 &&& (2147483647 : Int32)) % (10 : Int32)))])) (fun t k => XS.iloadN X0.here hx rfl (hb hby at_8) rfl k) ?_
      obtain ⟨v5, _, ⟨T5, L5, k5, n5⟩, -, X5, ⟨Lc5, hQ5, l5, y5, z5⟩, st5⟩ := Jvm.LawKit.callS X0 hx (y := (⟨"com/example/sundew/sundew/check/KindIsWeakPinLaw", "pick", "(I)Lcom/example/sundew/sundew/check/LtlFormulas$Kind;"⟩ : MethodName)) hown (mvT hZ (hw _ (List.mem_of_getElem? (i := 1) rfl))) (mvT hZ (hw _ (List.mem_of_getElem? (i := 2) rfl))) (mvT hZ (hw _ (List.mem_of_getElem? (i := 3) rfl))) (mvT hZ (hw _ (List.mem_of_getElem? (i := 4) rfl))) (by decide) (backOf (W := 0) (rm1 l Z a0 CX [] ((x0 &&& (2147483647 : Int32)) % (10 : Int32)) w_AND h0 O (by simp [hk0_1, hk1_4])) hZ (hw _ (List.mem_of_getElem? (i := 4) rfl)) (hw _ (List.mem_of_getElem? (i := 3) rfl)) (by decide) (by decide)) (g := (mkF m 9 #[.val (.int x0), .val (.int ((x0 &&& (2147483647 : Int32)) % (10 : Int32))), .unset, .unset] [(.int ((x0 &&& (2147483647 : Int32)) % (10 : Int32)))])) rfl (by rw [hml]; rfl) (argsL := [(.int ((x0 &&& (2147483647 : Int32)) % (10 : Int32)))]) (rest := []) (lenOf pd_0 rfl) rfl (by show 2 * 0 + _ ≤ _; exact Nat.le_of_eq rfl) (hb hby at_9) (fun _ _ => ⟨rfl, e0, (by decide : 0 + 0 ≤ _), (by decide : 0 + 0 ≤ _)⟩)
      dsimp only [Pt.U, Pt.locs, Pt.cells, Pt.slots] at X5 l5 y5 z5 st5 hQ5
      subst l5 y5 z5
      obtain ⟨rfl, N5q, e5⟩ := hQ5
      have N := Fr.app N N5q
      refine own_st (T' := T5) (F' := (mkF m 12 #[.val (.int x0), .val (.int ((x0 &&& (2147483647 : Int32)) % (10 : Int32))), .unset, .unset] [(.ref w_AND)])) st5 ?_
      refine own_st (T' := T5) (F' := (mkF m 13 #[.val (.int x0), .val (.int ((x0 &&& (2147483647 : Int32)) % (10 : Int32))), .val (.ref w_AND), .unset] [])) (fun t k => XS.astoreN X5.here hx rfl (hb hby at_12) rfl rfl (l' := #[.val (.int x0), .val (.int ((x0 &&& (2147483647 : Int32)) % (10 : Int32))), .val (.ref w_AND), .unset]) rfl k) ?_
      refine own_st (T' := T5) (F' := (mkF m 14 #[.val (.int x0), .val (.int ((x0 &&& (2147483647 : Int32)) % (10 : Int32))), .val (.ref w_AND), .unset] [(.int ((x0 &&& (2147483647 : Int32)) % (10 : Int32)))])) (fun t k => XS.iloadN X5.here hx rfl (hb hby at_13) rfl k) ?_
      refine own_st (T' := T5) (F' := (mkF m 15 #[.val (.int x0), .val (.int ((x0 &&& (2147483647 : Int32)) % (10 : Int32))), .val (.ref w_AND), .unset] [(.int (5 : Int32)), (.int ((x0 &&& (2147483647 : Int32)) % (10 : Int32)))])) (fun t k => XS.iconst X5.here hx rfl (hb hby at_14) k) ?_
      refine own_st (T' := T5) (F' := (mkF m 18 #[.val (.int x0), .val (.int ((x0 &&& (2147483647 : Int32)) % (10 : Int32))), .val (.ref w_AND), .unset] [])) (fun t k => XS.icmpNo X5.here hx rfl (hb hby at_15) rfl (feq (fun q => absurd (hk1_4.symm.trans q) (by decide))).1 k) ?_
      refine own_st (T' := T5) (F' := (mkF m 19 #[.val (.int x0), .val (.int ((x0 &&& (2147483647 : Int32)) % (10 : Int32))), .val (.ref w_AND), .unset] [(.int ((x0 &&& (2147483647 : Int32)) % (10 : Int32)))])) (fun t k => XS.iloadN X5.here hx rfl (hb hby at_18) rfl k) ?_
      refine own_st (T' := T5) (F' := (mkF m 21 #[.val (.int x0), .val (.int ((x0 &&& (2147483647 : Int32)) % (10 : Int32))), .val (.ref w_AND), .unset] [(.int (7 : Int32)), (.int ((x0 &&& (2147483647 : Int32)) % (10 : Int32)))])) (fun t k => XS.bipush X5.here hx rfl (hb hby at_19) k) ?_
      refine own_st (T' := T5) (F' := (mkF m 24 #[.val (.int x0), .val (.int ((x0 &&& (2147483647 : Int32)) % (10 : Int32))), .val (.ref w_AND), .unset] [])) (fun t k => XS.icmpNo X5.here hx rfl (hb hby at_21) rfl (feq (fun q => absurd (hk1_4.symm.trans q) (by decide))).1 k) ?_
      refine own_st (T' := T5) (F' := (mkF m 25 #[.val (.int x0), .val (.int ((x0 &&& (2147483647 : Int32)) % (10 : Int32))), .val (.ref w_AND), .unset] [(.int ((x0 &&& (2147483647 : Int32)) % (10 : Int32)))])) (fun t k => XS.iloadN X5.here hx rfl (hb hby at_24) rfl k) ?_
      refine own_st (T' := T5) (F' := (mkF m 27 #[.val (.int x0), .val (.int ((x0 &&& (2147483647 : Int32)) % (10 : Int32))), .val (.ref w_AND), .unset] [(.int (9 : Int32)), (.int ((x0 &&& (2147483647 : Int32)) % (10 : Int32)))])) (fun t k => XS.bipush X5.here hx rfl (hb hby at_25) k) ?_
      refine own_st (T' := T5) (F' := (mkF m 34 #[.val (.int x0), .val (.int ((x0 &&& (2147483647 : Int32)) % (10 : Int32))), .val (.ref w_AND), .unset] [])) (fun t k => XS.icmpYes X5.here hx rfl (pc0 := 27) (pc' := 34) rfl (hb hby at_27) rfl (feq (fun q => absurd (hk1_4.symm.trans q) (by decide))).2 (by decide) (by decide) k) ?_
      refine own_st (T' := T5) (F' := (mkF m 35 #[.val (.int x0), .val (.int ((x0 &&& (2147483647 : Int32)) % (10 : Int32))), .val (.ref w_AND), .unset] [(.int (0 : Int32))])) (fun t k => XS.iconst X5.here hx rfl (hb hby at_34) k) ?_
      refine own_st (T' := T5) (F' := (mkF m 36 #[.val (.int x0), .val (.int ((x0 &&& (2147483647 : Int32)) % (10 : Int32))), .val (.ref w_AND), .val (.int (0 : Int32))] [])) (fun t k => XS.istoreN X5.here hx rfl (hb hby at_35) rfl (l' := #[.val (.int x0), .val (.int ((x0 &&& (2147483647 : Int32)) % (10 : Int32))), .val (.ref w_AND), .val (.int (0 : Int32))]) rfl k) ?_
      refine own_st (T' := T5) (F' := (mkF m 37 #[.val (.int x0), .val (.int ((x0 &&& (2147483647 : Int32)) % (10 : Int32))), .val (.ref w_AND), .val (.int (0 : Int32))] [(.ref w_AND)])) (fun t k => XS.aloadN X5.here hx rfl (hb hby at_36) rfl rfl k) ?_
      obtain ⟨cq6, kq6, q6a, q6b, q6c⟩ := isOf hZ e5 (E_AND.ext O)
      obtain ⟨v6, _, ⟨T6, L6, k6, n6⟩, -, X6, ⟨Lc6, hQ6, l6, y6, z6⟩, st6⟩ := X5.virtualBack hx (y := (⟨"com/example/sundew/sundew/check/LtlFormulas$Kind", "isWeak", "()Z"⟩ : MethodName)) (z := (⟨"com/example/sundew/sundew/check/LtlFormulas$Kind", "isWeak", "()Z"⟩ : MethodName)) hown (mvT hZ (hw _ (List.mem_of_getElem? (i := 8) rfl))) (mvT hZ (hw _ (List.mem_of_getElem? (i := 9) rfl))) (notFace_of_selects (args := #[]) (mvT hZ (hw _ (List.mem_of_getElem? (i := 11) rfl)))) (mvT hZ (hw _ (List.mem_of_getElem? (i := 11) rfl))) (mvT hZ (hw _ (List.mem_of_getElem? (i := 10) rfl))) (by decide) (backOf (W := 0) (rm2 l Z a0 CX [] w_AND (0 : Int32) h0 O (by simp [(O_AND.ne O_RELEASE (by decide)), (O_AND.ne O_TRIGGERED (by decide)), (O_AND.ne O_WEAK_YESTERDAY (by decide))])) hZ (hw _ (List.mem_of_getElem? (i := 12) rfl)) (hw _ (List.mem_of_getElem? (i := 6) rfl)) (by decide) (by decide)) q6a q6c (g := (mkF m 37 #[.val (.int x0), .val (.int ((x0 &&& (2147483647 : Int32)) % (10 : Int32))), .val (.ref w_AND), .val (.int (0 : Int32))] [(.ref w_AND)])) rfl (by rw [hml]; rfl) (Steps.refl _) (argsL := []) (rest := []) (lenOf pd_1 rfl) rfl (by show 2 * 0 + _ ≤ _; exact Nat.le_of_eq rfl) (hb hby at_37) (fun _ _ => ⟨rfl, e5, (by decide : 0 + 0 ≤ _), (by decide : 0 + 0 ≤ _)⟩)
      dsimp only [Pt.U, Pt.locs, Pt.cells, Pt.slots] at X6 l6 y6 z6 st6 hQ6
      subst l6 y6 z6
      obtain ⟨rfl, N6q, e6⟩ := hQ6
      have N := Fr.app N N6q
      refine own_tr (T' := T6) (F' := (mkF m 40 #[.val (.int x0), .val (.int ((x0 &&& (2147483647 : Int32)) % (10 : Int32))), .val (.ref w_AND), .val (.int (0 : Int32))] [(.int (0 : Int32))])) st6 ?_
      refine own_st (T' := T6) (F' := (mkF m 41 #[.val (.int x0), .val (.int ((x0 &&& (2147483647 : Int32)) % (10 : Int32))), .val (.ref w_AND), .val (.int (0 : Int32))] [(.int (0 : Int32)), (.int (0 : Int32))])) (fun t k => XS.iloadN X6.here hx rfl (hb hby at_40) rfl k) ?_
      refine own_st (T' := T6) (F' := (mkF m 44 #[.val (.int x0), .val (.int ((x0 &&& (2147483647 : Int32)) % (10 : Int32))), .val (.ref w_AND), .val (.int (0 : Int32))] [])) (fun t k => XS.icmpNo X6.here hx rfl (hb hby at_41) rfl (teq rfl).2 k) ?_
      refine own_st (T' := T6) (F' := (mkF m 45 #[.val (.int x0), .val (.int ((x0 &&& (2147483647 : Int32)) % (10 : Int32))), .val (.ref w_AND), .val (.int (0 : Int32))] [(.int (1 : Int32))])) (fun t k => XS.iconst X6.here hx rfl (hb hby at_44) k) ?_
      refine own_st (T' := T6) (F' := (mkF m 49 #[.val (.int x0), .val (.int ((x0 &&& (2147483647 : Int32)) % (10 : Int32))), .val (.ref w_AND), .val (.int (0 : Int32))] [(.int (1 : Int32))])) (fun t k => XS.goto X6.here hx rfl (pc0 := 45) (pc' := 49) rfl (hb hby at_45) (by decide) (by decide) k) ?_
      exact own_retN X6 hx (t := .boolean) Bd.returns (by simp) (by decide) (hb hby at_49) hlk (by show Q0 Z _ T6.heap _; rw [e6]; exact ⟨rfl, N⟩) (by decide) (by decide)
    · by_cases hk2_7 : ((x0 &&& (2147483647 : Int32)) % (10 : Int32)) = (2 : Int32)
      · refine own_st (T' := s₁) (F' := (mkF m 1 #[.val (.int x0), .unset, .unset, .unset] [(.int x0)])) (fun t k => XS.iloadN X0.here hx rfl (hb hby at_0) rfl k) ?_
        refine own_st (T' := s₁) (F' := (mkF m 3 #[.val (.int x0), .unset, .unset, .unset] [(.int (2147483647 : Int32)), (.int x0)])) (fun t k => X0.ldcInt hx hown (mvT hZ (hw _ (List.mem_of_getElem? (i := 0) rfl))) (g := (mkF m 1 #[.val (.int x0), .unset, .unset, .unset] [(.int x0)])) rfl (hb hby at_1) _ k) ?_
        refine own_st (T' := s₁) (F' := (mkF m 4 #[.val (.int x0), .unset, .unset, .unset] [(.int (x0 &&& (2147483647 : Int32)))])) (fun t k => XS.iand X0.here hx rfl (hb hby at_3) rfl k) ?_
        refine own_st (T' := s₁) (F' := (mkF m 6 #[.val (.int x0), .unset, .unset, .unset] [(.int (10 : Int32)), (.int (x0 &&& (2147483647 : Int32)))])) (fun t k => XS.bipush X0.here hx rfl (hb hby at_4) k) ?_
        refine own_st (T' := s₁) (F' := (mkF m 7 #[.val (.int x0), .unset, .unset, .unset] [(.int ((x0 &&& (2147483647 : Int32)) % (10 : Int32)))])) (fun t k => iremM (g := (mkF m 6 #[.val (.int x0), .unset, .unset, .unset] [(.int (10 : Int32)), (.int (x0 &&& (2147483647 : Int32)))])) X0 hx rfl (hb hby at_6) rfl (by decide) k) ?_
        refine own_st (T' := s₁) (F' := (mkF m 8 #[.val (.int x0), .val (.int ((x0 &&& (2147483647 : Int32)) % (10 : Int32))), .unset, .unset] [])) (fun t k => XS.istoreN X0.here hx rfl (hb hby at_7) rfl (l' := #[.val (.int x0), .val (.int ((x0 &&& (2147483647 : Int32)) % (10 : Int32))), .unset, .unset]) rfl k) ?_
        refine own_st (T' := s₁) (F' := (mkF m 9 #[.val (.int x0), .val (.int ((x0 &&& (2147483647 : Int32)) % (10 : Int32))), .unset, .unset] [(.int ((x0 &&& (2147483647 : Int32)) % (10 : Int32)))])) (fun t k => XS.iloadN X0.here hx rfl (hb hby at_8) rfl k) ?_
        obtain ⟨v8, _, ⟨T8, L8, k8, n8⟩, -, X8, ⟨Lc8, hQ8, l8, y8, z8⟩, st8⟩ := Jvm.LawKit.callS X0 hx (y := (⟨"com/example/sundew/sundew/check/KindIsWeakPinLaw", "pick", "(I)Lcom/example/sundew/sundew/check/LtlFormulas$Kind;"⟩ : MethodName)) hown (mvT hZ (hw _ (List.mem_of_getElem? (i := 1) rfl))) (mvT hZ (hw _ (List.mem_of_getElem? (i := 2) rfl))) (mvT hZ (hw _ (List.mem_of_getElem? (i := 3) rfl))) (mvT hZ (hw _ (List.mem_of_getElem? (i := 4) rfl))) (by decide) (backOf (W := 0) (rm1 l Z a0 CX [] ((x0 &&& (2147483647 : Int32)) % (10 : Int32)) w_OR h0 O (by simp [hk0_1, hk1_4, hk2_7])) hZ (hw _ (List.mem_of_getElem? (i := 4) rfl)) (hw _ (List.mem_of_getElem? (i := 3) rfl)) (by decide) (by decide)) (g := (mkF m 9 #[.val (.int x0), .val (.int ((x0 &&& (2147483647 : Int32)) % (10 : Int32))), .unset, .unset] [(.int ((x0 &&& (2147483647 : Int32)) % (10 : Int32)))])) rfl (by rw [hml]; rfl) (argsL := [(.int ((x0 &&& (2147483647 : Int32)) % (10 : Int32)))]) (rest := []) (lenOf pd_0 rfl) rfl (by show 2 * 0 + _ ≤ _; exact Nat.le_of_eq rfl) (hb hby at_9) (fun _ _ => ⟨rfl, e0, (by decide : 0 + 0 ≤ _), (by decide : 0 + 0 ≤ _)⟩)
        dsimp only [Pt.U, Pt.locs, Pt.cells, Pt.slots] at X8 l8 y8 z8 st8 hQ8
        subst l8 y8 z8
        obtain ⟨rfl, N8q, e8⟩ := hQ8
        have N := Fr.app N N8q
        refine own_st (T' := T8) (F' := (mkF m 12 #[.val (.int x0), .val (.int ((x0 &&& (2147483647 : Int32)) % (10 : Int32))), .unset, .unset] [(.ref w_OR)])) st8 ?_
        refine own_st (T' := T8) (F' := (mkF m 13 #[.val (.int x0), .val (.int ((x0 &&& (2147483647 : Int32)) % (10 : Int32))), .val (.ref w_OR), .unset] [])) (fun t k => XS.astoreN X8.here hx rfl (hb hby at_12) rfl rfl (l' := #[.val (.int x0), .val (.int ((x0 &&& (2147483647 : Int32)) % (10 : Int32))), .val (.ref w_OR), .unset]) rfl k) ?_
        refine own_st (T' := T8) (F' := (mkF m 14 #[.val (.int x0), .val (.int ((x0 &&& (2147483647 : Int32)) % (10 : Int32))), .val (.ref w_OR), .unset] [(.int ((x0 &&& (2147483647 : Int32)) % (10 : Int32)))])) (fun t k => XS.iloadN X8.here hx rfl (hb hby at_13) rfl k) ?_
        refine own_st (T' := T8) (F' := (mkF m 15 #[.val (.int x0), .val (.int ((x0 &&& (2147483647 : Int32)) % (10 : Int32))), .val (.ref w_OR), .unset] [(.int (5 : Int32)), (.int ((x0 &&& (2147483647 : Int32)) % (10 : Int32)))])) (fun t k => XS.iconst X8.here hx rfl (hb hby at_14) k) ?_
        refine own_st (T' := T8) (F' := (mkF m 18 #[.val (.int x0), .val (.int ((x0 &&& (2147483647 : Int32)) % (10 : Int32))), .val (.ref w_OR), .unset] [])) (fun t k => XS.icmpNo X8.here hx rfl (hb hby at_15) rfl (feq (fun q => absurd (hk2_7.symm.trans q) (by decide))).1 k) ?_
        refine own_st (T' := T8) (F' := (mkF m 19 #[.val (.int x0), .val (.int ((x0 &&& (2147483647 : Int32)) % (10 : Int32))), .val (.ref w_OR), .unset] [(.int ((x0 &&& (2147483647 : Int32)) % (10 : Int32)))])) (fun t k => XS.iloadN X8.here hx rfl (hb hby at_18) rfl k) ?_
        refine own_st (T' := T8) (F' := (mkF m 21 #[.val (.int x0), .val (.int ((x0 &&& (2147483647 : Int32)) % (10 : Int32))), .val (.ref w_OR), .unset] [(.int (7 : Int32)), (.int ((x0 &&& (2147483647 : Int32)) % (10 : Int32)))])) (fun t k => XS.bipush X8.here hx rfl (hb hby at_19) k) ?_
        refine own_st (T' := T8) (F' := (mkF m 24 #[.val (.int x0), .val (.int ((x0 &&& (2147483647 : Int32)) % (10 : Int32))), .val (.ref w_OR), .unset] [])) (fun t k => XS.icmpNo X8.here hx rfl (hb hby at_21) rfl (feq (fun q => absurd (hk2_7.symm.trans q) (by decide))).1 k) ?_
        refine own_st (T' := T8) (F' := (mkF m 25 #[.val (.int x0), .val (.int ((x0 &&& (2147483647 : Int32)) % (10 : Int32))), .val (.ref w_OR), .unset] [(.int ((x0 &&& (2147483647 : Int32)) % (10 : Int32)))])) (fun t k => XS.iloadN X8.here hx rfl (hb hby at_24) rfl k) ?_
        refine own_st (T' := T8) (F' := (mkF m 27 #[.val (.int x0), .val (.int ((x0 &&& (2147483647 : Int32)) % (10 : Int32))), .val (.ref w_OR), .unset] [(.int (9 : Int32)), (.int ((x0 &&& (2147483647 : Int32)) % (10 : Int32)))])) (fun t k => XS.bipush X8.here hx rfl (hb hby at_25) k) ?_
        refine own_st (T' := T8) (F' := (mkF m 34 #[.val (.int x0), .val (.int ((x0 &&& (2147483647 : Int32)) % (10 : Int32))), .val (.ref w_OR), .unset] [])) (fun t k => XS.icmpYes X8.here hx rfl (pc0 := 27) (pc' := 34) rfl (hb hby at_27) rfl (feq (fun q => absurd (hk2_7.symm.trans q) (by decide))).2 (by decide) (by decide) k) ?_
        refine own_st (T' := T8) (F' := (mkF m 35 #[.val (.int x0), .val (.int ((x0 &&& (2147483647 : Int32)) % (10 : Int32))), .val (.ref w_OR), .unset] [(.int (0 : Int32))])) (fun t k => XS.iconst X8.here hx rfl (hb hby at_34) k) ?_
        refine own_st (T' := T8) (F' := (mkF m 36 #[.val (.int x0), .val (.int ((x0 &&& (2147483647 : Int32)) % (10 : Int32))), .val (.ref w_OR), .val (.int (0 : Int32))] [])) (fun t k => XS.istoreN X8.here hx rfl (hb hby at_35) rfl (l' := #[.val (.int x0), .val (.int ((x0 &&& (2147483647 : Int32)) % (10 : Int32))), .val (.ref w_OR), .val (.int (0 : Int32))]) rfl k) ?_
        refine own_st (T' := T8) (F' := (mkF m 37 #[.val (.int x0), .val (.int ((x0 &&& (2147483647 : Int32)) % (10 : Int32))), .val (.ref w_OR), .val (.int (0 : Int32))] [(.ref w_OR)])) (fun t k => XS.aloadN X8.here hx rfl (hb hby at_36) rfl rfl k) ?_
        obtain ⟨cq9, kq9, q9a, q9b, q9c⟩ := isOf hZ e8 (E_OR.ext O)
        obtain ⟨v9, _, ⟨T9, L9, k9, n9⟩, -, X9, ⟨Lc9, hQ9, l9, y9, z9⟩, st9⟩ := X8.virtualBack hx (y := (⟨"com/example/sundew/sundew/check/LtlFormulas$Kind", "isWeak", "()Z"⟩ : MethodName)) (z := (⟨"com/example/sundew/sundew/check/LtlFormulas$Kind", "isWeak", "()Z"⟩ : MethodName)) hown (mvT hZ (hw _ (List.mem_of_getElem? (i := 8) rfl))) (mvT hZ (hw _ (List.mem_of_getElem? (i := 9) rfl))) (notFace_of_selects (args := #[]) (mvT hZ (hw _ (List.mem_of_getElem? (i := 11) rfl)))) (mvT hZ (hw _ (List.mem_of_getElem? (i := 11) rfl))) (mvT hZ (hw _ (List.mem_of_getElem? (i := 10) rfl))) (by decide) (backOf (W := 0) (rm2 l Z a0 CX [] w_OR (0 : Int32) h0 O (by simp [(O_OR.ne O_RELEASE (by decide)), (O_OR.ne O_TRIGGERED (by decide)), (O_OR.ne O_WEAK_YESTERDAY (by decide))])) hZ (hw _ (List.mem_of_getElem? (i := 12) rfl)) (hw _ (List.mem_of_getElem? (i := 6) rfl)) (by decide) (by decide)) q9a q9c (g := (mkF m 37 #[.val (.int x0), .val (.int ((x0 &&& (2147483647 : Int32)) % (10 : Int32))), .val (.ref w_OR), .val (.int (0 : Int32))] [(.ref w_OR)])) rfl (by rw [hml]; rfl) (Steps.refl _) (argsL := []) (rest := []) (lenOf pd_1 rfl) rfl (by show 2 * 0 + _ ≤ _; exact Nat.le_of_eq rfl) (hb hby at_37) (fun _ _ => ⟨rfl, e8, (by decide : 0 + 0 ≤ _), (by decide : 0 + 0 ≤ _)⟩)
        dsimp only [Pt.U, Pt.locs, Pt.cells, Pt.slots] at X9 l9 y9 z9 st9 hQ9
        subst l9 y9 z9
        obtain ⟨rfl, N9q, e9⟩ := hQ9
        have N := Fr.app N N9q
        refine own_tr (T' := T9) (F' := (mkF m 40 #[.val (.int x0), .val (.int ((x0 &&& (2147483647 : Int32)) % (10 : Int32))), .val (.ref w_OR), .val (.int (0 : Int32))] [(.int (0 : Int32))])) st9 ?_
        refine own_st (T' := T9) (F' := (mkF m 41 #[.val (.int x0), .val (.int ((x0 &&& (2147483647 : Int32)) % (10 : Int32))), .val (.ref w_OR), .val (.int (0 : Int32))] [(.int (0 : Int32)), (.int (0 : Int32))])) (fun t k => XS.iloadN X9.here hx rfl (hb hby at_40) rfl k) ?_
        refine own_st (T' := T9) (F' := (mkF m 44 #[.val (.int x0), .val (.int ((x0 &&& (2147483647 : Int32)) % (10 : Int32))), .val (.ref w_OR), .val (.int (0 : Int32))] [])) (fun t k => XS.icmpNo X9.here hx rfl (hb hby at_41) rfl (teq rfl).2 k) ?_
        refine own_st (T' := T9) (F' := (mkF m 45 #[.val (.int x0), .val (.int ((x0 &&& (2147483647 : Int32)) % (10 : Int32))), .val (.ref w_OR), .val (.int (0 : Int32))] [(.int (1 : Int32))])) (fun t k => XS.iconst X9.here hx rfl (hb hby at_44) k) ?_
        refine own_st (T' := T9) (F' := (mkF m 49 #[.val (.int x0), .val (.int ((x0 &&& (2147483647 : Int32)) % (10 : Int32))), .val (.ref w_OR), .val (.int (0 : Int32))] [(.int (1 : Int32))])) (fun t k => XS.goto X9.here hx rfl (pc0 := 45) (pc' := 49) rfl (hb hby at_45) (by decide) (by decide) k) ?_
        exact own_retN X9 hx (t := .boolean) Bd.returns (by simp) (by decide) (hb hby at_49) hlk (by show Q0 Z _ T9.heap _; rw [e9]; exact ⟨rfl, N⟩) (by decide) (by decide)
      · by_cases hk3_10 : ((x0 &&& (2147483647 : Int32)) % (10 : Int32)) = (3 : Int32)
        · refine own_st (T' := s₁) (F' := (mkF m 1 #[.val (.int x0), .unset, .unset, .unset] [(.int x0)])) (fun t k => XS.iloadN X0.here hx rfl (hb hby at_0) rfl k) ?_
          refine own_st (T' := s₁) (F' := (mkF m 3 #[.val (.int x0), .unset, .unset, .unset] [(.int (2147483647 : Int32)), (.int x0)])) (fun t k => X0.ldcInt hx hown (mvT hZ (hw _ (List.mem_of_getElem? (i := 0) rfl))) (g := (mkF m 1 #[.val (.int x0), .unset, .unset, .unset] [(.int x0)])) rfl (hb hby at_1) _ k) ?_
          refine own_st (T' := s₁) (F' := (mkF m 4 #[.val (.int x0), .unset, .unset, .unset] [(.int (x0 &&& (2147483647 : Int32)))])) (fun t k => XS.iand X0.here hx rfl (hb hby at_3) rfl k) ?_
          refine own_st (T' := s₁) (F' := (mkF m 6 #[.val (.int x0), .unset, .unset, .unset] [(.int (10 : Int32)), (.int (x0 &&& (2147483647 : Int32)))])) (fun t k => XS.bipush X0.here hx rfl (hb hby at_4) k) ?_
          refine own_st (T' := s₁) (F' := (mkF m 7 #[.val (.int x0), .unset, .unset, .unset] [(.int ((x0 &&& (2147483647 : Int32)) % (10 : Int32)))])) (fun t k => iremM (g := (mkF m 6 #[.val (.int x0), .unset, .unset, .unset] [(.int (10 : Int32)), (.int (x0 &&& (2147483647 : Int32)))])) X0 hx rfl (hb hby at_6) rfl (by decide) k) ?_
          refine own_st (T' := s₁) (F' := (mkF m 8 #[.val (.int x0), .val (.int ((x0 &&& (2147483647 : Int32)) % (10 : Int32))), .unset, .unset] [])) (fun t k => XS.istoreN X0.here hx rfl (hb hby at_7) rfl (l' := #[.val (.int x0), .val (.int ((x0 &&& (2147483647 : Int32)) % (10 : Int32))), .unset, .unset]) rfl k) ?_
          refine own_st (T' := s₁) (F' := (mkF m 9 #[.val (.int x0), .val (.int ((x0 &&& (2147483647 : Int32)) % (10 : Int32))), .unset, .unset] [(.int ((x0 &&& (2147483647 : Int32)) % (10 : Int32)))])) (fun t k => XS.iloadN X0.here hx rfl (hb hby at_8) rfl k) ?_
          obtain ⟨v11, _, ⟨T11, L11, k11, n11⟩, -, X11, ⟨Lc11, hQ11, l11, y11, z11⟩, st11⟩ := Jvm.LawKit.callS X0 hx (y := (⟨"com/example/sundew/sundew/check/KindIsWeakPinLaw", "pick", "(I)Lcom/example/sundew/sundew/check/LtlFormulas$Kind;"⟩ : MethodName)) hown (mvT hZ (hw _ (List.mem_of_getElem? (i := 1) rfl))) (mvT hZ (hw _ (List.mem_of_getElem? (i := 2) rfl))) (mvT hZ (hw _ (List.mem_of_getElem? (i := 3) rfl))) (mvT hZ (hw _ (List.mem_of_getElem? (i := 4) rfl))) (by decide) (backOf (W := 0) (rm1 l Z a0 CX [] ((x0 &&& (2147483647 : Int32)) % (10 : Int32)) w_NEXT h0 O (by simp [hk0_1, hk1_4, hk2_7, hk3_10])) hZ (hw _ (List.mem_of_getElem? (i := 4) rfl)) (hw _ (List.mem_of_getElem? (i := 3) rfl)) (by decide) (by decide)) (g := (mkF m 9 #[.val (.int x0), .val (.int ((x0 &&& (2147483647 : Int32)) % (10 : Int32))), .unset, .unset] [(.int ((x0 &&& (2147483647 : Int32)) % (10 : Int32)))])) rfl (by rw [hml]; rfl) (argsL := [(.int ((x0 &&& (2147483647 : Int32)) % (10 : Int32)))]) (rest := []) (lenOf pd_0 rfl) rfl (by show 2 * 0 + _ ≤ _; exact Nat.le_of_eq rfl) (hb hby at_9) (fun _ _ => ⟨rfl, e0, (by decide : 0 + 0 ≤ _), (by decide : 0 + 0 ≤ _)⟩)
          dsimp only [Pt.U, Pt.locs, Pt.cells, Pt.slots] at X11 l11 y11 z11 st11 hQ11
          subst l11 y11 z11
          obtain ⟨rfl, N11q, e11⟩ := hQ11
          have N := Fr.app N N11q
          refine own_st (T' := T11) (F' := (mkF m 12 #[.val (.int x0), .val (.int ((x0 &&& (2147483647 : Int32)) % (10 : Int32))), .unset, .unset] [(.ref w_NEXT)])) st11 ?_
          refine own_st (T' := T11) (F' := (mkF m 13 #[.val (.int x0), .val (.int ((x0 &&& (2147483647 : Int32)) % (10 : Int32))), .val (.ref w_NEXT), .unset] [])) (fun t k => XS.astoreN X11.here hx rfl (hb hby at_12) rfl rfl (l' := #[.val (.int x0), .val (.int ((x0 &&& (2147483647 : Int32)) % (10 : Int32))), .val (.ref w_NEXT), .unset]) rfl k) ?_
          refine own_st (T' := T11) (F' := (mkF m 14 #[.val (.int x0), .val (.int ((x0 &&& (2147483647 : Int32)) % (10 : Int32))), .val (.ref w_NEXT), .unset] [(.int ((x0 &&& (2147483647 : Int32)) % (10 : Int32)))])) (fun t k => XS.iloadN X11.here hx rfl (hb hby at_13) rfl k) ?_
          refine own_st (T' := T11) (F' := (mkF m 15 #[.val (.int x0), .val (.int ((x0 &&& (2147483647 : Int32)) % (10 : Int32))), .val (.ref w_NEXT), .unset] [(.int (5 : Int32)), (.int ((x0 &&& (2147483647 : Int32)) % (10 : Int32)))])) (fun t k => XS.iconst X11.here hx rfl (hb hby at_14) k) ?_
          refine own_st (T' := T11) (F' := (mkF m 18 #[.val (.int x0), .val (.int ((x0 &&& (2147483647 : Int32)) % (10 : Int32))), .val (.ref w_NEXT), .unset] [])) (fun t k => XS.icmpNo X11.here hx rfl (hb hby at_15) rfl (feq (fun q => absurd (hk3_10.symm.trans q) (by decide))).1 k) ?_
          refine own_st (T' := T11) (F' := (mkF m 19 #[.val (.int x0), .val (.int ((x0 &&& (2147483647 : Int32)) % (10 : Int32))), .val (.ref w_NEXT), .unset] [(.int ((x0 &&& (2147483647 : Int32)) % (10 : Int32)))])) (fun t k => XS.iloadN X11.here hx rfl (hb hby at_18) rfl k) ?_
          refine own_st (T' := T11) (F' := (mkF m 21 #[.val (.int x0), .val (.int ((x0 &&& (2147483647 : Int32)) % (10 : Int32))), .val (.ref w_NEXT), .unset] [(.int (7 : Int32)), (.int ((x0 &&& (2147483647 : Int32)) % (10 : Int32)))])) (fun t k => XS.bipush X11.here hx rfl (hb hby at_19) k) ?_
          refine own_st (T' := T11) (F' := (mkF m 24 #[.val (.int x0), .val (.int ((x0 &&& (2147483647 : Int32)) % (10 : Int32))), .val (.ref w_NEXT), .unset] [])) (fun t k => XS.icmpNo X11.here hx rfl (hb hby at_21) rfl (feq (fun q => absurd (hk3_10.symm.trans q) (by decide))).1 k) ?_
          refine own_st (T' := T11) (F' := (mkF m 25 #[.val (.int x0), .val (.int ((x0 &&& (2147483647 : Int32)) % (10 : Int32))), .val (.ref w_NEXT), .unset] [(.int ((x0 &&& (2147483647 : Int32)) % (10 : Int32)))])) (fun t k => XS.iloadN X11.here hx rfl (hb hby at_24) rfl k) ?_
          refine own_st (T' := T11) (F' := (mkF m 27 #[.val (.int x0), .val (.int ((x0 &&& (2147483647 : Int32)) % (10 : Int32))), .val (.ref w_NEXT), .unset] [(.int (9 : Int32)), (.int ((x0 &&& (2147483647 : Int32)) % (10 : Int32)))])) (fun t k => XS.bipush X11.here hx rfl (hb hby at_25) k) ?_
          refine own_st (T' := T11) (F' := (mkF m 34 #[.val (.int x0), .val (.int ((x0 &&& (2147483647 : Int32)) % (10 : Int32))), .val (.ref w_NEXT), .unset] [])) (fun t k => XS.icmpYes X11.here hx rfl (pc0 := 27) (pc' := 34) rfl (hb hby at_27) rfl (feq (fun q => absurd (hk3_10.symm.trans q) (by decide))).2 (by decide) (by decide) k) ?_
          refine own_st (T' := T11) (F' := (mkF m 35 #[.val (.int x0), .val (.int ((x0 &&& (2147483647 : Int32)) % (10 : Int32))), .val (.ref w_NEXT), .unset] [(.int (0 : Int32))])) (fun t k => XS.iconst X11.here hx rfl (hb hby at_34) k) ?_
          refine own_st (T' := T11) (F' := (mkF m 36 #[.val (.int x0), .val (.int ((x0 &&& (2147483647 : Int32)) % (10 : Int32))), .val (.ref w_NEXT), .val (.int (0 : Int32))] [])) (fun t k => XS.istoreN X11.here hx rfl (hb hby at_35) rfl (l' := #[.val (.int x0), .val (.int ((x0 &&& (2147483647 : Int32)) % (10 : Int32))), .val (.ref w_NEXT), .val (.int (0 : Int32))]) rfl k) ?_
          refine own_st (T' := T11) (F' := (mkF m 37 #[.val (.int x0), .val (.int ((x0 &&& (2147483647 : Int32)) % (10 : Int32))), .val (.ref w_NEXT), .val (.int (0 : Int32))] [(.ref w_NEXT)])) (fun t k => XS.aloadN X11.here hx rfl (hb hby at_36) rfl rfl k) ?_
          obtain ⟨cq12, kq12, q12a, q12b, q12c⟩ := isOf hZ e11 (E_NEXT.ext O)
          obtain ⟨v12, _, ⟨T12, L12, k12, n12⟩, -, X12, ⟨Lc12, hQ12, l12, y12, z12⟩, st12⟩ := X11.virtualBack hx (y := (⟨"com/example/sundew/sundew/check/LtlFormulas$Kind", "isWeak", "()Z"⟩ : MethodName)) (z := (⟨"com/example/sundew/sundew/check/LtlFormulas$Kind", "isWeak", "()Z"⟩ : MethodName)) hown (mvT hZ (hw _ (List.mem_of_getElem? (i := 8) rfl))) (mvT hZ (hw _ (List.mem_of_getElem? (i := 9) rfl))) (notFace_of_selects (args := #[]) (mvT hZ (hw _ (List.mem_of_getElem? (i := 11) rfl)))) (mvT hZ (hw _ (List.mem_of_getElem? (i := 11) rfl))) (mvT hZ (hw _ (List.mem_of_getElem? (i := 10) rfl))) (by decide) (backOf (W := 0) (rm2 l Z a0 CX [] w_NEXT (0 : Int32) h0 O (by simp [(O_NEXT.ne O_RELEASE (by decide)), (O_NEXT.ne O_TRIGGERED (by decide)), (O_NEXT.ne O_WEAK_YESTERDAY (by decide))])) hZ (hw _ (List.mem_of_getElem? (i := 12) rfl)) (hw _ (List.mem_of_getElem? (i := 6) rfl)) (by decide) (by decide)) q12a q12c (g := (mkF m 37 #[.val (.int x0), .val (.int ((x0 &&& (2147483647 : Int32)) % (10 : Int32))), .val (.ref w_NEXT), .val (.int (0 : Int32))] [(.ref w_NEXT)])) rfl (by rw [hml]; rfl) (Steps.refl _) (argsL := []) (rest := []) (lenOf pd_1 rfl) rfl (by show 2 * 0 + _ ≤ _; exact Nat.le_of_eq rfl) (hb hby at_37) (fun _ _ => ⟨rfl, e11, (by decide : 0 + 0 ≤ _), (by decide : 0 + 0 ≤ _)⟩)
          dsimp only [Pt.U, Pt.locs, Pt.cells, Pt.slots] at X12 l12 y12 z12 st12 hQ12
          subst l12 y12 z12
          obtain ⟨rfl, N12q, e12⟩ := hQ12
          have N := Fr.app N N12q
          refine own_tr (T' := T12) (F' := (mkF m 40 #[.val (.int x0), .val (.int ((x0 &&& (2147483647 : Int32)) % (10 : Int32))), .val (.ref w_NEXT), .val (.int (0 : Int32))] [(.int (0 : Int32))])) st12 ?_
          refine own_st (T' := T12) (F' := (mkF m 41 #[.val (.int x0), .val (.int ((x0 &&& (2147483647 : Int32)) % (10 : Int32))), .val (.ref w_NEXT), .val (.int (0 : Int32))] [(.int (0 : Int32)), (.int (0 : Int32))])) (fun t k => XS.iloadN X12.here hx rfl (hb hby at_40) rfl k) ?_
          refine own_st (T' := T12) (F' := (mkF m 44 #[.val (.int x0), .val (.int ((x0 &&& (2147483647 : Int32)) % (10 : Int32))), .val (.ref w_NEXT), .val (.int (0 : Int32))] [])) (fun t k => XS.icmpNo X12.here hx rfl (hb hby at_41) rfl (teq rfl).2 k) ?_
          refine own_st (T' := T12) (F' := (mkF m 45 #[.val (.int x0), .val (.int ((x0 &&& (2147483647 : Int32)) % (10 : Int32))), .val (.ref w_NEXT), .val (.int (0 : Int32))] [(.int (1 : Int32))])) (fun t k => XS.iconst X12.here hx rfl (hb hby at_44) k) ?_
          refine own_st (T' := T12) (F' := (mkF m 49 #[.val (.int x0), .val (.int ((x0 &&& (2147483647 : Int32)) % (10 : Int32))), .val (.ref w_NEXT), .val (.int (0 : Int32))] [(.int (1 : Int32))])) (fun t k => XS.goto X12.here hx rfl (pc0 := 45) (pc' := 49) rfl (hb hby at_45) (by decide) (by decide) k) ?_
          exact own_retN X12 hx (t := .boolean) Bd.returns (by simp) (by decide) (hb hby at_49) hlk (by show Q0 Z _ T12.heap _; rw [e12]; exact ⟨rfl, N⟩) (by decide) (by decide)
        · by_cases hk4_13 : ((x0 &&& (2147483647 : Int32)) % (10 : Int32)) = (4 : Int32)
          · refine own_st (T' := s₁) (F' := (mkF m 1 #[.val (.int x0), .unset, .unset, .unset] [(.int x0)])) (fun t k => XS.iloadN X0.here hx rfl (hb hby at_0) rfl k) ?_
            refine own_st (T' := s₁) (F' := (mkF m 3 #[.val (.int x0), .unset, .unset, .unset] [(.int (2147483647 : Int32)), (.int x0)])) (fun t k => X0.ldcInt hx hown (mvT hZ (hw _ (List.mem_of_getElem? (i := 0) rfl))) (g := (mkF m 1 #[.val (.int x0), .unset, .unset, .unset] [(.int x0)])) rfl (hb hby at_1) _ k) ?_
            refine own_st (T' := s₁) (F' := (mkF m 4 #[.val (.int x0), .unset, .unset, .unset] [(.int (x0 &&& (2147483647 : Int32)))])) (fun t k => XS.iand X0.here hx rfl (hb hby at_3) rfl k) ?_
            refine own_st (T' := s₁) (F' := (mkF m 6 #[.val (.int x0), .unset, .unset, .unset] [(.int (10 : Int32)), (.int (x0 &&& (2147483647 : Int32)))])) (fun t k => XS.bipush X0.here hx rfl (hb hby at_4) k) ?_
            refine own_st (T' := s₁) (F' := (mkF m 7 #[.val (.int x0), .unset, .unset, .unset] [(.int ((x0 &&& (2147483647 : Int32)) % (10 : Int32)))])) (fun t k => iremM (g := (mkF m 6 #[.val (.int x0), .unset, .unset, .unset] [(.int (10 : Int32)), (.int (x0 &&& (2147483647 : Int32)))])) X0 hx rfl (hb hby at_6) rfl (by decide) k) ?_
            refine own_st (T' := s₁) (F' := (mkF m 8 #[.val (.int x0), .val (.int ((x0 &&& (2147483647 : Int32)) % (10 : Int32))), .unset, .unset] [])) (fun t k => XS.istoreN X0.here hx rfl (hb hby at_7) rfl (l' := #[.val (.int x0), .val (.int ((x0 &&& (2147483647 : Int32)) % (10 : Int32))), .unset, .unset]) rfl k) ?_
            refine own_st (T' := s₁) (F' := (mkF m 9 #[.val (.int x0), .val (.int ((x0 &&& (2147483647 : Int32)) % (10 : Int32))), .unset, .unset] [(.int ((x0 &&& (2147483647 : Int32)) % (10 : Int32)))])) (fun t k => XS.iloadN X0.here hx rfl (hb hby at_8) rfl k) ?_
            obtain ⟨v14, _, ⟨T14, L14, k14, n14⟩, -, X14, ⟨Lc14, hQ14, l14, y14, z14⟩, st14⟩ := Jvm.LawKit.callS X0 hx (y := (⟨"com/example/sundew/sundew/check/KindIsWeakPinLaw", "pick", "(I)Lcom/example/sundew/sundew/check/LtlFormulas$Kind;"⟩ : MethodName)) hown (mvT hZ (hw _ (List.mem_of_getElem? (i := 1) rfl))) (mvT hZ (hw _ (List.mem_of_getElem? (i := 2) rfl))) (mvT hZ (hw _ (List.mem_of_getElem? (i := 3) rfl))) (mvT hZ (hw _ (List.mem_of_getElem? (i := 4) rfl))) (by decide) (backOf (W := 0) (rm1 l Z a0 CX [] ((x0 &&& (2147483647 : Int32)) % (10 : Int32)) w_UNTIL h0 O (by simp [hk0_1, hk1_4, hk2_7, hk3_10, hk4_13])) hZ (hw _ (List.mem_of_getElem? (i := 4) rfl)) (hw _ (List.mem_of_getElem? (i := 3) rfl)) (by decide) (by decide)) (g := (mkF m 9 #[.val (.int x0), .val (.int ((x0 &&& (2147483647 : Int32)) % (10 : Int32))), .unset, .unset] [(.int ((x0 &&& (2147483647 : Int32)) % (10 : Int32)))])) rfl (by rw [hml]; rfl) (argsL := [(.int ((x0 &&& (2147483647 : Int32)) % (10 : Int32)))]) (rest := []) (lenOf pd_0 rfl) rfl (by show 2 * 0 + _ ≤ _; exact Nat.le_of_eq rfl) (hb hby at_9) (fun _ _ => ⟨rfl, e0, (by decide : 0 + 0 ≤ _), (by decide : 0 + 0 ≤ _)⟩)
            dsimp only [Pt.U, Pt.locs, Pt.cells, Pt.slots] at X14 l14 y14 z14 st14 hQ14
            subst l14 y14 z14
            obtain ⟨rfl, N14q, e14⟩ := hQ14
            have N := Fr.app N N14q
            refine own_st (T' := T14) (F' := (mkF m 12 #[.val (.int x0), .val (.int ((x0 &&& (2147483647 : Int32)) % (10 : Int32))), .unset, .unset] [(.ref w_UNTIL)])) st14 ?_
            refine own_st (T' := T14) (F' := (mkF m 13 #[.val (.int x0), .val (.int ((x0 &&& (2147483647 : Int32)) % (10 : Int32))), .val (.ref w_UNTIL), .unset] [])) (fun t k => XS.astoreN X14.here hx rfl (hb hby at_12) rfl rfl (l' := #[.val (.int x0), .val (.int ((x0 &&& (2147483647 : Int32)) % (10 : Int32))), .val (.ref w_UNTIL), .unset]) rfl k) ?_
            refine own_st (T' := T14) (F' := (mkF m 14 #[.val (.int x0), .val (.int ((x0 &&& (2147483647 : Int32)) % (10 : Int32))), .val (.ref w_UNTIL), .unset] [(.int ((x0 &&& (2147483647 : Int32)) % (10 : Int32)))])) (fun t k => XS.iloadN X14.here hx rfl (hb hby at_13) rfl k) ?_
            refine own_st (T' := T14) (F' := (mkF m 15 #[.val (.int x0), .val (.int ((x0 &&& (2147483647 : Int32)) % (10 : Int32))), .val (.ref w_UNTIL), .unset] [(.int (5 : Int32)), (.int ((x0 &&& (2147483647 : Int32)) % (10 : Int32)))])) (fun t k => XS.iconst X14.here hx rfl (hb hby at_14) k) ?_
            refine own_st (T' := T14) (F' := (mkF m 18 #[.val (.int x0), .val (.int ((x0 &&& (2147483647 : Int32)) % (10 : Int32))), .val (.ref w_UNTIL), .unset] [])) (fun t k => XS.icmpNo X14.here hx rfl (hb hby at_15) rfl (feq (fun q => absurd (hk4_13.symm.trans q) (by decide))).1 k) ?_
            refine own_st (T' := T14) (F' := (mkF m 19 #[.val (.int x0), .val (.int ((x0 &&& (2147483647 : Int32)) % (10 : Int32))), .val (.ref w_UNTIL), .unset] [(.int ((x0 &&& (2147483647 : Int32)) % (10 : Int32)))])) (fun t k => XS.iloadN X14.here hx rfl (hb hby at_18) rfl k) ?_
            refine own_st (T' := T14) (F' := (mkF m 21 #[.val (.int x0), .val (.int ((x0 &&& (2147483647 : Int32)) % (10 : Int32))), .val (.ref w_UNTIL), .unset] [(.int (7 : Int32)), (.int ((x0 &&& (2147483647 : Int32)) % (10 : Int32)))])) (fun t k => XS.bipush X14.here hx rfl (hb hby at_19) k) ?_
            refine own_st (T' := T14) (F' := (mkF m 24 #[.val (.int x0), .val (.int ((x0 &&& (2147483647 : Int32)) % (10 : Int32))), .val (.ref w_UNTIL), .unset] [])) (fun t k => XS.icmpNo X14.here hx rfl (hb hby at_21) rfl (feq (fun q => absurd (hk4_13.symm.trans q) (by decide))).1 k) ?_
            refine own_st (T' := T14) (F' := (mkF m 25 #[.val (.int x0), .val (.int ((x0 &&& (2147483647 : Int32)) % (10 : Int32))), .val (.ref w_UNTIL), .unset] [(.int ((x0 &&& (2147483647 : Int32)) % (10 : Int32)))])) (fun t k => XS.iloadN X14.here hx rfl (hb hby at_24) rfl k) ?_
            refine own_st (T' := T14) (F' := (mkF m 27 #[.val (.int x0), .val (.int ((x0 &&& (2147483647 : Int32)) % (10 : Int32))), .val (.ref w_UNTIL), .unset] [(.int (9 : Int32)), (.int ((x0 &&& (2147483647 : Int32)) % (10 : Int32)))])) (fun t k => XS.bipush X14.here hx rfl (hb hby at_25) k) ?_
            refine own_st (T' := T14) (F' := (mkF m 34 #[.val (.int x0), .val (.int ((x0 &&& (2147483647 : Int32)) % (10 : Int32))), .val (.ref w_UNTIL), .unset] [])) (fun t k => XS.icmpYes X14.here hx rfl (pc0 := 27) (pc' := 34) rfl (hb hby at_27) rfl (feq (fun q => absurd (hk4_13.symm.trans q) (by decide))).2 (by decide) (by decide) k) ?_
            refine own_st (T' := T14) (F' := (mkF m 35 #[.val (.int x0), .val (.int ((x0 &&& (2147483647 : Int32)) % (10 : Int32))), .val (.ref w_UNTIL), .unset] [(.int (0 : Int32))])) (fun t k => XS.iconst X14.here hx rfl (hb hby at_34) k) ?_
            refine own_st (T' := T14) (F' := (mkF m 36 #[.val (.int x0), .val (.int ((x0 &&& (2147483647 : Int32)) % (10 : Int32))), .val (.ref w_UNTIL), .val (.int (0 : Int32))] [])) (fun t k => XS.istoreN X14.here hx rfl (hb hby at_35) rfl (l' := #[.val (.int x0), .val (.int ((x0 &&& (2147483647 : Int32)) % (10 : Int32))), .val (.ref w_UNTIL), .val (.int (0 : Int32))]) rfl k) ?_
            refine own_st (T' := T14) (F' := (mkF m 37 #[.val (.int x0), .val (.int ((x0 &&& (2147483647 : Int32)) % (10 : Int32))), .val (.ref w_UNTIL), .val (.int (0 : Int32))] [(.ref w_UNTIL)])) (fun t k => XS.aloadN X14.here hx rfl (hb hby at_36) rfl rfl k) ?_
            obtain ⟨cq15, kq15, q15a, q15b, q15c⟩ := isOf hZ e14 (E_UNTIL.ext O)
            obtain ⟨v15, _, ⟨T15, L15, k15, n15⟩, -, X15, ⟨Lc15, hQ15, l15, y15, z15⟩, st15⟩ := X14.virtualBack hx (y := (⟨"com/example/sundew/sundew/check/LtlFormulas$Kind", "isWeak", "()Z"⟩ : MethodName)) (z := (⟨"com/example/sundew/sundew/check/LtlFormulas$Kind", "isWeak", "()Z"⟩ : MethodName)) hown (mvT hZ (hw _ (List.mem_of_getElem? (i := 8) rfl))) (mvT hZ (hw _ (List.mem_of_getElem? (i := 9) rfl))) (notFace_of_selects (args := #[]) (mvT hZ (hw _ (List.mem_of_getElem? (i := 11) rfl)))) (mvT hZ (hw _ (List.mem_of_getElem? (i := 11) rfl))) (mvT hZ (hw _ (List.mem_of_getElem? (i := 10) rfl))) (by decide) (backOf (W := 0) (rm2 l Z a0 CX [] w_UNTIL (0 : Int32) h0 O (by simp [(O_UNTIL.ne O_RELEASE (by decide)), (O_UNTIL.ne O_TRIGGERED (by decide)), (O_UNTIL.ne O_WEAK_YESTERDAY (by decide))])) hZ (hw _ (List.mem_of_getElem? (i := 12) rfl)) (hw _ (List.mem_of_getElem? (i := 6) rfl)) (by decide) (by decide)) q15a q15c (g := (mkF m 37 #[.val (.int x0), .val (.int ((x0 &&& (2147483647 : Int32)) % (10 : Int32))), .val (.ref w_UNTIL), .val (.int (0 : Int32))] [(.ref w_UNTIL)])) rfl (by rw [hml]; rfl) (Steps.refl _) (argsL := []) (rest := []) (lenOf pd_1 rfl) rfl (by show 2 * 0 + _ ≤ _; exact Nat.le_of_eq rfl) (hb hby at_37) (fun _ _ => ⟨rfl, e14, (by decide : 0 + 0 ≤ _), (by decide : 0 + 0 ≤ _)⟩)
            dsimp only [Pt.U, Pt.locs, Pt.cells, Pt.slots] at X15 l15 y15 z15 st15 hQ15
            subst l15 y15 z15
            obtain ⟨rfl, N15q, e15⟩ := hQ15
            have N := Fr.app N N15q
            refine own_tr (T' := T15) (F' := (mkF m 40 #[.val (.int x0), .val (.int ((x0 &&& (2147483647 : Int32)) % (10 : Int32))), .val (.ref w_UNTIL), .val (.int (0 : Int32))] [(.int (0 : Int32))])) st15 ?_
            refine own_st (T' := T15) (F' := (mkF m 41 #[.val (.int x0), .val (.int ((x0 &&& (2147483647 : Int32)) % (10 : Int32))), .val (.ref w_UNTIL), .val (.int (0 : Int32))] [(.int (0 : Int32)), (.int (0 : Int32))])) (fun t k => XS.iloadN X15.here hx rfl (hb hby at_40) rfl k) ?_
            refine own_st (T' := T15) (F' := (mkF m 44 #[.val (.int x0), .val (.int ((x0 &&& (2147483647 : Int32)) % (10 : Int32))), .val (.ref w_UNTIL), .val (.int (0 : Int32))] [])) (fun t k => XS.icmpNo X15.here hx rfl (hb hby at_41) rfl (teq rfl).2 k) ?_
            refine own_st (T' := T15) (F' := (mkF m 45 #[.val (.int x0), .val (.int ((x0 &&& (2147483647 : Int32)) % (10 : Int32))), .val (.ref w_UNTIL), .val (.int (0 : Int32))] [(.int (1 : Int32))])) (fun t k => XS.iconst X15.here hx rfl (hb hby at_44) k) ?_
            refine own_st (T' := T15) (F' := (mkF m 49 #[.val (.int x0), .val (.int ((x0 &&& (2147483647 : Int32)) % (10 : Int32))), .val (.ref w_UNTIL), .val (.int (0 : Int32))] [(.int (1 : Int32))])) (fun t k => XS.goto X15.here hx rfl (pc0 := 45) (pc' := 49) rfl (hb hby at_45) (by decide) (by decide) k) ?_
            exact own_retN X15 hx (t := .boolean) Bd.returns (by simp) (by decide) (hb hby at_49) hlk (by show Q0 Z _ T15.heap _; rw [e15]; exact ⟨rfl, N⟩) (by decide) (by decide)
          · by_cases hk5_16 : ((x0 &&& (2147483647 : Int32)) % (10 : Int32)) = (5 : Int32)
            · refine own_st (T' := s₁) (F' := (mkF m 1 #[.val (.int x0), .unset, .unset, .unset] [(.int x0)])) (fun t k => XS.iloadN X0.here hx rfl (hb hby at_0) rfl k) ?_
              refine own_st (T' := s₁) (F' := (mkF m 3 #[.val (.int x0), .unset, .unset, .unset] [(.int (2147483647 : Int32)), (.int x0)])) (fun t k => X0.ldcInt hx hown (mvT hZ (hw _ (List.mem_of_getElem? (i := 0) rfl))) (g := (mkF m 1 #[.val (.int x0), .unset, .unset, .unset] [(.int x0)])) rfl (hb hby at_1) _ k) ?_
              refine own_st (T' := s₁) (F' := (mkF m 4 #[.val (.int x0), .unset, .unset, .unset] [(.int (x0 &&& (2147483647 : Int32)))])) (fun t k => XS.iand X0.here hx rfl (hb hby at_3) rfl k) ?_
              refine own_st (T' := s₁) (F' := (mkF m 6 #[.val (.int x0), .unset, .unset, .unset] [(.int (10 : Int32)), (.int (x0 &&& (2147483647 : Int32)))])) (fun t k => XS.bipush X0.here hx rfl (hb hby at_4) k) ?_
              refine own_st (T' := s₁) (F' := (mkF m 7 #[.val (.int x0), .unset, .unset, .unset] [(.int ((x0 &&& (2147483647 : Int32)) % (10 : Int32)))])) (fun t k => iremM (g := (mkF m 6 #[.val (.int x0), .unset, .unset, .unset] [(.int (10 : Int32)), (.int (x0 &&& (2147483647 : Int32)))])) X0 hx rfl (hb hby at_6) rfl (by decide) k) ?_
              refine own_st (T' := s₁) (F' := (mkF m 8 #[.val (.int x0), .val (.int ((x0 &&& (2147483647 : Int32)) % (10 : Int32))), .unset, .unset] [])) (fun t k => XS.istoreN X0.here hx rfl (hb hby at_7) rfl (l' := #[.val (.int x0), .val (.int ((x0 &&& (2147483647 : Int32)) % (10 : Int32))), .unset, .unset]) rfl k) ?_
              refine own_st (T' := s₁) (F' := (mkF m 9 #[.val (.int x0), .val (.int ((x0 &&& (2147483647 : Int32)) % (10 : Int32))), .unset, .unset] [(.int ((x0 &&& (2147483647 : Int32)) % (10 : Int32)))])) (fun t k => XS.iloadN X0.here hx rfl (hb hby at_8) rfl k) ?_
              obtain ⟨v17, _, ⟨T17, L17, k17, n17⟩, -, X17, ⟨Lc17, hQ17, l17, y17, z17⟩, st17⟩ := Jvm.LawKit.callS X0 hx (y := (⟨"com/example/sundew/sundew/check/KindIsWeakPinLaw", "pick", "(I)Lcom/example/sundew/sundew/check/LtlFormulas$Kind;"⟩ : MethodName)) hown (mvT hZ (hw _ (List.mem_of_getElem? (i := 1) rfl))) (mvT hZ (hw _ (List.mem_of_getElem? (i := 2) rfl))) (mvT hZ (hw _ (List.mem_of_getElem? (i := 3) rfl))) (mvT hZ (hw _ (List.mem_of_getElem? (i := 4) rfl))) (by decide) (backOf (W := 0) (rm1 l Z a0 CX [] ((x0 &&& (2147483647 : Int32)) % (10 : Int32)) w_RELEASE h0 O (by simp [hk0_1, hk1_4, hk2_7, hk3_10, hk4_13, hk5_16])) hZ (hw _ (List.mem_of_getElem? (i := 4) rfl)) (hw _ (List.mem_of_getElem? (i := 3) rfl)) (by decide) (by decide)) (g := (mkF m 9 #[.val (.int x0), .val (.int ((x0 &&& (2147483647 : Int32)) % (10 : Int32))), .unset, .unset] [(.int ((x0 &&& (2147483647 : Int32)) % (10 : Int32)))])) rfl (by rw [hml]; rfl) (argsL := [(.int ((x0 &&& (2147483647 : Int32)) % (10 : Int32)))]) (rest := []) (lenOf pd_0 rfl) rfl (by show 2 * 0 + _ ≤ _; exact Nat.le_of_eq rfl) (hb hby at_9) (fun _ _ => ⟨rfl, e0, (by decide : 0 + 0 ≤ _), (by decide : 0 + 0 ≤ _)⟩)
              dsimp only [Pt.U, Pt.locs, Pt.cells, Pt.slots] at X17 l17 y17 z17 st17 hQ17
              subst l17 y17 z17
              obtain ⟨rfl, N17q, e17⟩ := hQ17
              have N := Fr.app N N17q
              refine own_st (T' := T17) (F' := (mkF m 12 #[.val (.int x0), .val (.int ((x0 &&& (2147483647 : Int32)) % (10 : Int32))), .unset, .unset] [(.ref w_RELEASE)])) st17 ?_
              refine own_st (T' := T17) (F' := (mkF m 13 #[.val (.int x0), .val (.int ((x0 &&& (2147483647 : Int32)) % (10 : Int32))), .val (.ref w_RELEASE), .unset] [])) (fun t k => XS.astoreN X17.here hx rfl (hb hby at_12) rfl rfl (l' := #[.val (.int x0), .val (.int ((x0 &&& (2147483647 : Int32)) % (10 : Int32))), .val (.ref w_RELEASE), .unset]) rfl k) ?_
              refine own_st (T' := T17) (F' := (mkF m 14 #[.val (.int x0), .val (.int ((x0 &&& (2147483647 : Int32)) % (10 : Int32))), .val (.ref w_RELEASE), .unset] [(.int ((x0 &&& (2147483647 : Int32)) % (10 : Int32)))])) (fun t k => XS.iloadN X17.here hx rfl (hb hby at_13) rfl k) ?_
              refine own_st (T' := T17) (F' := (mkF m 15 #[.val (.int x0), .val (.int ((x0 &&& (2147483647 : Int32)) % (10 : Int32))), .val (.ref w_RELEASE), .unset] [(.int (5 : Int32)), (.int ((x0 &&& (2147483647 : Int32)) % (10 : Int32)))])) (fun t k => XS.iconst X17.here hx rfl (hb hby at_14) k) ?_
              refine own_st (T' := T17) (F' := (mkF m 30 #[.val (.int x0), .val (.int ((x0 &&& (2147483647 : Int32)) % (10 : Int32))), .val (.ref w_RELEASE), .unset] [])) (fun t k => XS.icmpYes X17.here hx rfl (pc0 := 15) (pc' := 30) rfl (hb hby at_15) rfl (teq hk5_16).1 (by decide) (by decide) k) ?_
              refine own_st (T' := T17) (F' := (mkF m 31 #[.val (.int x0), .val (.int ((x0 &&& (2147483647 : Int32)) % (10 : Int32))), .val (.ref w_RELEASE), .unset] [(.int (1 : Int32))])) (fun t k => XS.iconst X17.here hx rfl (hb hby at_30) k) ?_
              refine own_st (T' := T17) (F' := (mkF m 35 #[.val (.int x0), .val (.int ((x0 &&& (2147483647 : Int32)) % (10 : Int32))), .val (.ref w_RELEASE), .unset] [(.int (1 : Int32))])) (fun t k => XS.goto X17.here hx rfl (pc0 := 31) (pc' := 35) rfl (hb hby at_31) (by decide) (by decide) k) ?_
              refine own_st (T' := T17) (F' := (mkF m 36 #[.val (.int x0), .val (.int ((x0 &&& (2147483647 : Int32)) % (10 : Int32))), .val (.ref w_RELEASE), .val (.int (1 : Int32))] [])) (fun t k => XS.istoreN X17.here hx rfl (hb hby at_35) rfl (l' := #[.val (.int x0), .val (.int ((x0 &&& (2147483647 : Int32)) % (10 : Int32))), .val (.ref w_RELEASE), .val (.int (1 : Int32))]) rfl k) ?_
              refine own_st (T' := T17) (F' := (mkF m 37 #[.val (.int x0), .val (.int ((x0 &&& (2147483647 : Int32)) % (10 : Int32))), .val (.ref w_RELEASE), .val (.int (1 : Int32))] [(.ref w_RELEASE)])) (fun t k => XS.aloadN X17.here hx rfl (hb hby at_36) rfl rfl k) ?_
              obtain ⟨cq18, kq18, q18a, q18b, q18c⟩ := isOf hZ e17 (E_RELEASE.ext O)
              obtain ⟨v18, _, ⟨T18, L18, k18, n18⟩, -, X18, ⟨Lc18, hQ18, l18, y18, z18⟩, st18⟩ := X17.virtualBack hx (y := (⟨"com/example/sundew/sundew/check/LtlFormulas$Kind", "isWeak", "()Z"⟩ : MethodName)) (z := (⟨"com/example/sundew/sundew/check/LtlFormulas$Kind", "isWeak", "()Z"⟩ : MethodName)) hown (mvT hZ (hw _ (List.mem_of_getElem? (i := 8) rfl))) (mvT hZ (hw _ (List.mem_of_getElem? (i := 9) rfl))) (notFace_of_selects (args := #[]) (mvT hZ (hw _ (List.mem_of_getElem? (i := 11) rfl)))) (mvT hZ (hw _ (List.mem_of_getElem? (i := 11) rfl))) (mvT hZ (hw _ (List.mem_of_getElem? (i := 10) rfl))) (by decide) (backOf (W := 0) (rm2 l Z a0 CX [] w_RELEASE (1 : Int32) h0 O (by simp [(O_RELEASE.ne O_TRIGGERED (by decide)), (O_RELEASE.ne O_WEAK_YESTERDAY (by decide))])) hZ (hw _ (List.mem_of_getElem? (i := 12) rfl)) (hw _ (List.mem_of_getElem? (i := 6) rfl)) (by decide) (by decide)) q18a q18c (g := (mkF m 37 #[.val (.int x0), .val (.int ((x0 &&& (2147483647 : Int32)) % (10 : Int32))), .val (.ref w_RELEASE), .val (.int (1 : Int32))] [(.ref w_RELEASE)])) rfl (by rw [hml]; rfl) (Steps.refl _) (argsL := []) (rest := []) (lenOf pd_1 rfl) rfl (by show 2 * 0 + _ ≤ _; exact Nat.le_of_eq rfl) (hb hby at_37) (fun _ _ => ⟨rfl, e17, (by decide : 0 + 0 ≤ _), (by decide : 0 + 0 ≤ _)⟩)
              dsimp only [Pt.U, Pt.locs, Pt.cells, Pt.slots] at X18 l18 y18 z18 st18 hQ18
              subst l18 y18 z18
              obtain ⟨rfl, N18q, e18⟩ := hQ18
              have N := Fr.app N N18q
              refine own_tr (T' := T18) (F' := (mkF m 40 #[.val (.int x0), .val (.int ((x0 &&& (2147483647 : Int32)) % (10 : Int32))), .val (.ref w_RELEASE), .val (.int (1 : Int32))] [(.int (1 : Int32))])) st18 ?_
              refine own_st (T' := T18) (F' := (mkF m 41 #[.val (.int x0), .val (.int ((x0 &&& (2147483647 : Int32)) % (10 : Int32))), .val (.ref w_RELEASE), .val (.int (1 : Int32))] [(.int (1 : Int32)), (.int (1 : Int32))])) (fun t k => XS.iloadN X18.here hx rfl (hb hby at_40) rfl k) ?_
              refine own_st (T' := T18) (F' := (mkF m 44 #[.val (.int x0), .val (.int ((x0 &&& (2147483647 : Int32)) % (10 : Int32))), .val (.ref w_RELEASE), .val (.int (1 : Int32))] [])) (fun t k => XS.icmpNo X18.here hx rfl (hb hby at_41) rfl (teq rfl).2 k) ?_
              refine own_st (T' := T18) (F' := (mkF m 45 #[.val (.int x0), .val (.int ((x0 &&& (2147483647 : Int32)) % (10 : Int32))), .val (.ref w_RELEASE), .val (.int (1 : Int32))] [(.int (1 : Int32))])) (fun t k => XS.iconst X18.here hx rfl (hb hby at_44) k) ?_
              refine own_st (T' := T18) (F' := (mkF m 49 #[.val (.int x0), .val (.int ((x0 &&& (2147483647 : Int32)) % (10 : Int32))), .val (.ref w_RELEASE), .val (.int (1 : Int32))] [(.int (1 : Int32))])) (fun t k => XS.goto X18.here hx rfl (pc0 := 45) (pc' := 49) rfl (hb hby at_45) (by decide) (by decide) k) ?_
              exact own_retN X18 hx (t := .boolean) Bd.returns (by simp) (by decide) (hb hby at_49) hlk (by show Q0 Z _ T18.heap _; rw [e18]; exact ⟨rfl, N⟩) (by decide) (by decide)
            · by_cases hk6_19 : ((x0 &&& (2147483647 : Int32)) % (10 : Int32)) = (6 : Int32)
              · refine own_st (T' := s₁) (F' := (mkF m 1 #[.val (.int x0), .unset, .unset, .unset] [(.int x0)])) (fun t k => XS.iloadN X0.here hx rfl (hb hby at_0) rfl k) ?_
                refine own_st (T' := s₁) (F' := (mkF m 3 #[.val (.int x0), .unset, .unset, .unset] [(.int (2147483647 : Int32)), (.int x0)])) (fun t k => X0.ldcInt hx hown (mvT hZ (hw _ (List.mem_of_getElem? (i := 0) rfl))) (g := (mkF m 1 #[.val (.int x0), .unset, .unset, .unset] [(.int x0)])) rfl (hb hby at_1) _ k) ?_
                refine own_st (T' := s₁) (F' := (mkF m 4 #[.val (.int x0), .unset, .unset, .unset] [(.int (x0 &&& (2147483647 : Int32)))])) (fun t k => XS.iand X0.here hx rfl (hb hby at_3) rfl k) ?_
                refine own_st (T' := s₁) (F' := (mkF m 6 #[.val (.int x0), .unset, .unset, .unset] [(.int (10 : Int32)), (.int (x0 &&& (2147483647 : Int32)))])) (fun t k => XS.bipush X0.here hx rfl (hb hby at_4) k) ?_
                refine own_st (T' := s₁) (F' := (mkF m 7 #[.val (.int x0), .unset, .unset, .unset] [(.int ((x0 &&& (2147483647 : Int32)) % (10 : Int32)))])) (fun t k => iremM (g := (mkF m 6 #[.val (.int x0), .unset, .unset, .unset] [(.int (10 : Int32)), (.int (x0 &&& (2147483647 : Int32)))])) X0 hx rfl (hb hby at_6) rfl (by decide) k) ?_
                refine own_st (T' := s₁) (F' := (mkF m 8 #[.val (.int x0), .val (.int ((x0 &&& (2147483647 : Int32)) % (10 : Int32))), .unset, .unset] [])) (fun t k => XS.istoreN X0.here hx rfl (hb hby at_7) rfl (l' := #[.val (.int x0), .val (.int ((x0 &&& (2147483647 : Int32)) % (10 : Int32))), .unset, .unset]) rfl k) ?_
                refine own_st (T' := s₁) (F' := (mkF m 9 #[.val (.int x0), .val (.int ((x0 &&& (2147483647 : Int32)) % (10 : Int32))), .unset, .unset] [(.int ((x0 &&& (2147483647 : Int32)) % (10 : Int32)))])) (fun t k => XS.iloadN X0.here hx rfl (hb hby at_8) rfl k) ?_
                obtain ⟨v20, _, ⟨T20, L20, k20, n20⟩, -, X20, ⟨Lc20, hQ20, l20, y20, z20⟩, st20⟩ := Jvm.LawKit.callS X0 hx (y := (⟨"com/example/sundew/sundew/check/KindIsWeakPinLaw", "pick", "(I)Lcom/example/sundew/sundew/check/LtlFormulas$Kind;"⟩ : MethodName)) hown (mvT hZ (hw _ (List.mem_of_getElem? (i := 1) rfl))) (mvT hZ (hw _ (List.mem_of_getElem? (i := 2) rfl))) (mvT hZ (hw _ (List.mem_of_getElem? (i := 3) rfl))) (mvT hZ (hw _ (List.mem_of_getElem? (i := 4) rfl))) (by decide) (backOf (W := 0) (rm1 l Z a0 CX [] ((x0 &&& (2147483647 : Int32)) % (10 : Int32)) w_YESTERDAY h0 O (by simp [hk0_1, hk1_4, hk2_7, hk3_10, hk4_13, hk5_16, hk6_19])) hZ (hw _ (List.mem_of_getElem? (i := 4) rfl)) (hw _ (List.mem_of_getElem? (i := 3) rfl)) (by decide) (by decide)) (g := (mkF m 9 #[.val (.int x0), .val (.int ((x0 &&& (2147483647 : Int32)) % (10 : Int32))), .unset, .unset] [(.int ((x0 &&& (2147483647 : Int32)) % (10 : Int32)))])) rfl (by rw [hml]; rfl) (argsL := [(.int ((x0 &&& (2147483647 : Int32)) % (10 : Int32)))]) (rest := []) (lenOf pd_0 rfl) rfl (by show 2 * 0 + _ ≤ _; exact Nat.le_of_eq rfl) (hb hby at_9) (fun _ _ => ⟨rfl, e0, (by decide : 0 + 0 ≤ _), (by decide : 0 + 0 ≤ _)⟩)
                dsimp only [Pt.U, Pt.locs, Pt.cells, Pt.slots] at X20 l20 y20 z20 st20 hQ20
                subst l20 y20 z20
                obtain ⟨rfl, N20q, e20⟩ := hQ20
                have N := Fr.app N N20q
                refine own_st (T' := T20) (F' := (mkF m 12 #[.val (.int x0), .val (.int ((x0 &&& (2147483647 : Int32)) % (10 : Int32))), .unset, .unset] [(.ref w_YESTERDAY)])) st20 ?_
                refine own_st (T' := T20) (F' := (mkF m 13 #[.val (.int x0), .val (.int ((x0 &&& (2147483647 : Int32)) % (10 : Int32))), .val (.ref w_YESTERDAY), .unset] [])) (fun t k => XS.astoreN X20.here hx rfl (hb hby at_12) rfl rfl (l' := #[.val (.int x0), .val (.int ((x0 &&& (2147483647 : Int32)) % (10 : Int32))), .val (.ref w_YESTERDAY), .unset]) rfl k) ?_
                refine own_st (T' := T20) (F' := (mkF m 14 #[.val (.int x0), .val (.int ((x0 &&& (2147483647 : Int32)) % (10 : Int32))), .val (.ref w_YESTERDAY), .unset] [(.int ((x0 &&& (2147483647 : Int32)) % (10 : Int32)))])) (fun t k => XS.iloadN X20.here hx rfl (hb hby at_13) rfl k) ?_
                refine own_st (T' := T20) (F' := (mkF m 15 #[.val (.int x0), .val (.int ((x0 &&& (2147483647 : Int32)) % (10 : Int32))), .val (.ref w_YESTERDAY), .unset] [(.int (5 : Int32)), (.int ((x0 &&& (2147483647 : Int32)) % (10 : Int32)))])) (fun t k => XS.iconst X20.here hx rfl (hb hby at_14) k) ?_
                refine own_st (T' := T20) (F' := (mkF m 18 #[.val (.int x0), .val (.int ((x0 &&& (2147483647 : Int32)) % (10 : Int32))), .val (.ref w_YESTERDAY), .unset] [])) (fun t k => XS.icmpNo X20.here hx rfl (hb hby at_15) rfl (feq hk5_16).1 k) ?_
                refine own_st (T' := T20) (F' := (mkF m 19 #[.val (.int x0), .val (.int ((x0 &&& (2147483647 : Int32)) % (10 : Int32))), .val (.ref w_YESTERDAY), .unset] [(.int ((x0 &&& (2147483647 : Int32)) % (10 : Int32)))])) (fun t k => XS.iloadN X20.here hx rfl (hb hby at_18) rfl k) ?_
                refine own_st (T' := T20) (F' := (mkF m 21 #[.val (.int x0), .val (.int ((x0 &&& (2147483647 : Int32)) % (10 : Int32))), .val (.ref w_YESTERDAY), .unset] [(.int (7 : Int32)), (.int ((x0 &&& (2147483647 : Int32)) % (10 : Int32)))])) (fun t k => XS.bipush X20.here hx rfl (hb hby at_19) k) ?_
                refine own_st (T' := T20) (F' := (mkF m 24 #[.val (.int x0), .val (.int ((x0 &&& (2147483647 : Int32)) % (10 : Int32))), .val (.ref w_YESTERDAY), .unset] [])) (fun t k => XS.icmpNo X20.here hx rfl (hb hby at_21) rfl (feq (fun q => absurd (hk6_19.symm.trans q) (by decide))).1 k) ?_
                refine own_st (T' := T20) (F' := (mkF m 25 #[.val (.int x0), .val (.int ((x0 &&& (2147483647 : Int32)) % (10 : Int32))), .val (.ref w_YESTERDAY), .unset] [(.int ((x0 &&& (2147483647 : Int32)) % (10 : Int32)))])) (fun t k => XS.iloadN X20.here hx rfl (hb hby at_24) rfl k) ?_
                refine own_st (T' := T20) (F' := (mkF m 27 #[.val (.int x0), .val (.int ((x0 &&& (2147483647 : Int32)) % (10 : Int32))), .val (.ref w_YESTERDAY), .unset] [(.int (9 : Int32)), (.int ((x0 &&& (2147483647 : Int32)) % (10 : Int32)))])) (fun t k => XS.bipush X20.here hx rfl (hb hby at_25) k) ?_
                refine own_st (T' := T20) (F' := (mkF m 34 #[.val (.int x0), .val (.int ((x0 &&& (2147483647 : Int32)) % (10 : Int32))), .val (.ref w_YESTERDAY), .unset] [])) (fun t k => XS.icmpYes X20.here hx rfl (pc0 := 27) (pc' := 34) rfl (hb hby at_27) rfl (feq (fun q => absurd (hk6_19.symm.trans q) (by decide))).2 (by decide) (by decide) k) ?_
                refine own_st (T' := T20) (F' := (mkF m 35 #[.val (.int x0), .val (.int ((x0 &&& (2147483647 : Int32)) % (10 : Int32))), .val (.ref w_YESTERDAY), .unset] [(.int (0 : Int32))])) (fun t k => XS.iconst X20.here hx rfl (hb hby at_34) k) ?_
                refine own_st (T' := T20) (F' := (mkF m 36 #[.val (.int x0), .val (.int ((x0 &&& (2147483647 : Int32)) % (10 : Int32))), .val (.ref w_YESTERDAY), .val (.int (0 : Int32))] [])) (fun t k => XS.istoreN X20.here hx rfl (hb hby at_35) rfl (l' := #[.val (.int x0), .val (.int ((x0 &&& (2147483647 : Int32)) % (10 : Int32))), .val (.ref w_YESTERDAY), .val (.int (0 : Int32))]) rfl k) ?_
                refine own_st (T' := T20) (F' := (mkF m 37 #[.val (.int x0), .val (.int ((x0 &&& (2147483647 : Int32)) % (10 : Int32))), .val (.ref w_YESTERDAY), .val (.int (0 : Int32))] [(.ref w_YESTERDAY)])) (fun t k => XS.aloadN X20.here hx rfl (hb hby at_36) rfl rfl k) ?_
                obtain ⟨cq21, kq21, q21a, q21b, q21c⟩ := isOf hZ e20 (E_YESTERDAY.ext O)
                obtain ⟨v21, _, ⟨T21, L21, k21, n21⟩, -, X21, ⟨Lc21, hQ21, l21, y21, z21⟩, st21⟩ := X20.virtualBack hx (y := (⟨"com/example/sundew/sundew/check/LtlFormulas$Kind", "isWeak", "()Z"⟩ : MethodName)) (z := (⟨"com/example/sundew/sundew/check/LtlFormulas$Kind", "isWeak", "()Z"⟩ : MethodName)) hown (mvT hZ (hw _ (List.mem_of_getElem? (i := 8) rfl))) (mvT hZ (hw _ (List.mem_of_getElem? (i := 9) rfl))) (notFace_of_selects (args := #[]) (mvT hZ (hw _ (List.mem_of_getElem? (i := 11) rfl)))) (mvT hZ (hw _ (List.mem_of_getElem? (i := 11) rfl))) (mvT hZ (hw _ (List.mem_of_getElem? (i := 10) rfl))) (by decide) (backOf (W := 0) (rm2 l Z a0 CX [] w_YESTERDAY (0 : Int32) h0 O (by simp [(O_YESTERDAY.ne O_RELEASE (by decide)), (O_YESTERDAY.ne O_TRIGGERED (by decide)), (O_YESTERDAY.ne O_WEAK_YESTERDAY (by decide))])) hZ (hw _ (List.mem_of_getElem? (i := 12) rfl)) (hw _ (List.mem_of_getElem? (i := 6) rfl)) (by decide) (by decide)) q21a q21c (g := (mkF m 37 #[.val (.int x0), .val (.int ((x0 &&& (2147483647 : Int32)) % (10 : Int32))), .val (.ref w_YESTERDAY), .val (.int (0 : Int32))] [(.ref w_YESTERDAY)])) rfl (by rw [hml]; rfl) (Steps.refl _) (argsL := []) (rest := []) (lenOf pd_1 rfl) rfl (by show 2 * 0 + _ ≤ _; exact Nat.le_of_eq rfl) (hb hby at_37) (fun _ _ => ⟨rfl, e20, (by decide : 0 + 0 ≤ _), (by decide : 0 + 0 ≤ _)⟩)
                dsimp only [Pt.U, Pt.locs, Pt.cells, Pt.slots] at X21 l21 y21 z21 st21 hQ21
                subst l21 y21 z21
                obtain ⟨rfl, N21q, e21⟩ := hQ21
                have N := Fr.app N N21q
                refine own_tr (T' := T21) (F' := (mkF m 40 #[.val (.int x0), .val (.int ((x0 &&& (2147483647 : Int32)) % (10 : Int32))), .val (.ref w_YESTERDAY), .val (.int (0 : Int32))] [(.int (0 : Int32))])) st21 ?_
                refine own_st (T' := T21) (F' := (mkF m 41 #[.val (.int x0), .val (.int ((x0 &&& (2147483647 : Int32)) % (10 : Int32))), .val (.ref w_YESTERDAY), .val (.int (0 : Int32))] [(.int (0 : Int32)), (.int (0 : Int32))])) (fun t k => XS.iloadN X21.here hx rfl (hb hby at_40) rfl k) ?_
                refine own_st (T' := T21) (F' := (mkF m 44 #[.val (.int x0), .val (.int ((x0 &&& (2147483647 : Int32)) % (10 : Int32))), .val (.ref w_YESTERDAY), .val (.int (0 : Int32))] [])) (fun t k => XS.icmpNo X21.here hx rfl (hb hby at_41) rfl (teq rfl).2 k) ?_
                refine own_st (T' := T21) (F' := (mkF m 45 #[.val (.int x0), .val (.int ((x0 &&& (2147483647 : Int32)) % (10 : Int32))), .val (.ref w_YESTERDAY), .val (.int (0 : Int32))] [(.int (1 : Int32))])) (fun t k => XS.iconst X21.here hx rfl (hb hby at_44) k) ?_
                refine own_st (T' := T21) (F' := (mkF m 49 #[.val (.int x0), .val (.int ((x0 &&& (2147483647 : Int32)) % (10 : Int32))), .val (.ref w_YESTERDAY), .val (.int (0 : Int32))] [(.int (1 : Int32))])) (fun t k => XS.goto X21.here hx rfl (pc0 := 45) (pc' := 49) rfl (hb hby at_45) (by decide) (by decide) k) ?_
                exact own_retN X21 hx (t := .boolean) Bd.returns (by simp) (by decide) (hb hby at_49) hlk (by show Q0 Z _ T21.heap _; rw [e21]; exact ⟨rfl, N⟩) (by decide) (by decide)
              · by_cases hk7_22 : ((x0 &&& (2147483647 : Int32)) % (10 : Int32)) = (7 : Int32)
                · refine own_st (T' := s₁) (F' := (mkF m 1 #[.val (.int x0), .unset, .unset, .unset] [(.int x0)])) (fun t k => XS.iloadN X0.here hx rfl (hb hby at_0) rfl k) ?_
                  refine own_st (T' := s₁) (F' := (mkF m 3 #[.val (.int x0), .unset, .unset, .unset] [(.int (2147483647 : Int32)), (.int x0)])) (fun t k => X0.ldcInt hx hown (mvT hZ (hw _ (List.mem_of_getElem? (i := 0) rfl))) (g := (mkF m 1 #[.val (.int x0), .unset, .unset, .unset] [(.int x0)])) rfl (hb hby at_1) _ k) ?_
                  refine own_st (T' := s₁) (F' := (mkF m 4 #[.val (.int x0), .unset, .unset, .unset] [(.int (x0 &&& (2147483647 : Int32)))])) (fun t k => XS.iand X0.here hx rfl (hb hby at_3) rfl k) ?_
                  refine own_st (T' := s₁) (F' := (mkF m 6 #[.val (.int x0), .unset, .unset, .unset] [(.int (10 : Int32)), (.int (x0 &&& (2147483647 : Int32)))])) (fun t k => XS.bipush X0.here hx rfl (hb hby at_4) k) ?_
                  refine own_st (T' := s₁) (F' := (mkF m 7 #[.val (.int x0), .unset, .unset, .unset] [(.int ((x0 &&& (2147483647 : Int32)) % (10 : Int32)))])) (fun t k => iremM (g := (mkF m 6 #[.val (.int x0), .unset, .unset, .unset] [(.int (10 : Int32)), (.int (x0 &&& (2147483647 : Int32)))])) X0 hx rfl (hb hby at_6) rfl (by decide) k) ?_
                  refine own_st (T' := s₁) (F' := (mkF m 8 #[.val (.int x0), .val (.int ((x0 &&& (2147483647 : Int32)) % (10 : Int32))), .unset, .unset] [])) (fun t k => XS.istoreN X0.here hx rfl (hb hby at_7) rfl (l' := #[.val (.int x0), .val (.int ((x0 &&& (2147483647 : Int32)) % (10 : Int32))), .unset, .unset]) rfl k) ?_
                  refine own_st (T' := s₁) (F' := (mkF m 9 #[.val (.int x0), .val (.int ((x0 &&& (2147483647 : Int32)) % (10 : Int32))), .unset, .unset] [(.int ((x0 &&& (2147483647 : Int32)) % (10 : Int32)))])) (fun t k => XS.iloadN X0.here hx rfl (hb hby at_8) rfl k) ?_
                  obtain ⟨v23, _, ⟨T23, L23, k23, n23⟩, -, X23, ⟨Lc23, hQ23, l23, y23, z23⟩, st23⟩ := Jvm.LawKit.callS X0 hx (y := (⟨"com/example/sundew/sundew/check/KindIsWeakPinLaw", "pick", "(I)Lcom/example/sundew/sundew/check/LtlFormulas$Kind;"⟩ : MethodName)) hown (mvT hZ (hw _ (List.mem_of_getElem? (i := 1) rfl))) (mvT hZ (hw _ (List.mem_of_getElem? (i := 2) rfl))) (mvT hZ (hw _ (List.mem_of_getElem? (i := 3) rfl))) (mvT hZ (hw _ (List.mem_of_getElem? (i := 4) rfl))) (by decide) (backOf (W := 0) (rm1 l Z a0 CX [] ((x0 &&& (2147483647 : Int32)) % (10 : Int32)) w_WEAK_YESTERDAY h0 O (by simp [hk0_1, hk1_4, hk2_7, hk3_10, hk4_13, hk5_16, hk6_19, hk7_22])) hZ (hw _ (List.mem_of_getElem? (i := 4) rfl)) (hw _ (List.mem_of_getElem? (i := 3) rfl)) (by decide) (by decide)) (g := (mkF m 9 #[.val (.int x0), .val (.int ((x0 &&& (2147483647 : Int32)) % (10 : Int32))), .unset, .unset] [(.int ((x0 &&& (2147483647 : Int32)) % (10 : Int32)))])) rfl (by rw [hml]; rfl) (argsL := [(.int ((x0 &&& (2147483647 : Int32)) % (10 : Int32)))]) (rest := []) (lenOf pd_0 rfl) rfl (by show 2 * 0 + _ ≤ _; exact Nat.le_of_eq rfl) (hb hby at_9) (fun _ _ => ⟨rfl, e0, (by decide : 0 + 0 ≤ _), (by decide : 0 + 0 ≤ _)⟩)
                  dsimp only [Pt.U, Pt.locs, Pt.cells, Pt.slots] at X23 l23 y23 z23 st23 hQ23
                  subst l23 y23 z23
                  obtain ⟨rfl, N23q, e23⟩ := hQ23
                  have N := Fr.app N N23q
                  refine own_st (T' := T23) (F' := (mkF m 12 #[.val (.int x0), .val (.int ((x0 &&& (2147483647 : Int32)) % (10 : Int32))), .unset, .unset] [(.ref w_WEAK_YESTERDAY)])) st23 ?_
                  refine own_st (T' := T23) (F' := (mkF m 13 #[.val (.int x0), .val (.int ((x0 &&& (2147483647 : Int32)) % (10 : Int32))), .val (.ref w_WEAK_YESTERDAY), .unset] [])) (fun t k => XS.astoreN X23.here hx rfl (hb hby at_12) rfl rfl (l' := #[.val (.int x0), .val (.int ((x0 &&& (2147483647 : Int32)) % (10 : Int32))), .val (.ref w_WEAK_YESTERDAY), .unset]) rfl k) ?_
                  refine own_st (T' := T23) (F' := (mkF m 14 #[.val (.int x0), .val (.int ((x0 &&& (2147483647 : Int32)) % (10 : Int32))), .val (.ref w_WEAK_YESTERDAY), .unset] [(.int ((x0 &&& (2147483647 : Int32)) % (10 : Int32)))])) (fun t k => XS.iloadN X23.here hx rfl (hb hby at_13) rfl k) ?_
                  refine own_st (T' := T23) (F' := (mkF m 15 #[.val (.int x0), .val (.int ((x0 &&& (2147483647 : Int32)) % (10 : Int32))), .val (.ref w_WEAK_YESTERDAY), .unset] [(.int (5 : Int32)), (.int ((x0 &&& (2147483647 : Int32)) % (10 : Int32)))])) (fun t k => XS.iconst X23.here hx rfl (hb hby at_14) k) ?_
                  refine own_st (T' := T23) (F' := (mkF m 18 #[.val (.int x0), .val (.int ((x0 &&& (2147483647 : Int32)) % (10 : Int32))), .val (.ref w_WEAK_YESTERDAY), .unset] [])) (fun t k => XS.icmpNo X23.here hx rfl (hb hby at_15) rfl (feq hk5_16).1 k) ?_
                  refine own_st (T' := T23) (F' := (mkF m 19 #[.val (.int x0), .val (.int ((x0 &&& (2147483647 : Int32)) % (10 : Int32))), .val (.ref w_WEAK_YESTERDAY), .unset] [(.int ((x0 &&& (2147483647 : Int32)) % (10 : Int32)))])) (fun t k => XS.iloadN X23.here hx rfl (hb hby at_18) rfl k) ?_
                  refine own_st (T' := T23) (F' := (mkF m 21 #[.val (.int x0), .val (.int ((x0 &&& (2147483647 : Int32)) % (10 : Int32))), .val (.ref w_WEAK_YESTERDAY), .unset] [(.int (7 : Int32)), (.int ((x0 &&& (2147483647 : Int32)) % (10 : Int32)))])) (fun t k => XS.bipush X23.here hx rfl (hb hby at_19) k) ?_
                  refine own_st (T' := T23) (F' := (mkF m 30 #[.val (.int x0), .val (.int ((x0 &&& (2147483647 : Int32)) % (10 : Int32))), .val (.ref w_WEAK_YESTERDAY), .unset] [])) (fun t k => XS.icmpYes X23.here hx rfl (pc0 := 21) (pc' := 30) rfl (hb hby at_21) rfl (teq hk7_22).1 (by decide) (by decide) k) ?_
                  refine own_st (T' := T23) (F' := (mkF m 31 #[.val (.int x0), .val (.int ((x0 &&& (2147483647 : Int32)) % (10 : Int32))), .val (.ref w_WEAK_YESTERDAY), .unset] [(.int (1 : Int32))])) (fun t k => XS.iconst X23.here hx rfl (hb hby at_30) k) ?_
                  refine own_st (T' := T23) (F' := (mkF m 35 #[.val (.int x0), .val (.int ((x0 &&& (2147483647 : Int32)) % (10 : Int32))), .val (.ref w_WEAK_YESTERDAY), .unset] [(.int (1 : Int32))])) (fun t k => XS.goto X23.here hx rfl (pc0 := 31) (pc' := 35) rfl (hb hby at_31) (by decide) (by decide) k) ?_
                  refine own_st (T' := T23) (F' := (mkF m 36 #[.val (.int x0), .val (.int ((x0 &&& (2147483647 : Int32)) % (10 : Int32))), .val (.ref w_WEAK_YESTERDAY), .val (.int (1 : Int32))] [])) (fun t k => XS.istoreN X23.here hx rfl (hb hby at_35) rfl (l' := #[.val (.int x0), .val (.int ((x0 &&& (2147483647 : Int32)) % (10 : Int32))), .val (.ref w_WEAK_YESTERDAY), .val (.int (1 : Int32))]) rfl k) ?_
                  refine own_st (T' := T23) (F' := (mkF m 37 #[.val (.int x0), .val (.int ((x0 &&& (2147483647 : Int32)) % (10 : Int32))), .val (.ref w_WEAK_YESTERDAY), .val (.int (1 : Int32))] [(.ref w_WEAK_YESTERDAY)])) (fun t k => XS.aloadN X23.here hx rfl (hb hby at_36) rfl rfl k) ?_
                  obtain ⟨cq24, kq24, q24a, q24b, q24c⟩ := isOf hZ e23 (E_WEAK_YESTERDAY.ext O)
                  obtain ⟨v24, _, ⟨T24, L24, k24, n24⟩, -, X24, ⟨Lc24, hQ24, l24, y24, z24⟩, st24⟩ := X23.virtualBack hx (y := (⟨"com/example/sundew/sundew/check/LtlFormulas$Kind", "isWeak", "()Z"⟩ : MethodName)) (z := (⟨"com/example/sundew/sundew/check/LtlFormulas$Kind", "isWeak", "()Z"⟩ : MethodName)) hown (mvT hZ (hw _ (List.mem_of_getElem? (i := 8) rfl))) (mvT hZ (hw _ (List.mem_of_getElem? (i := 9) rfl))) (notFace_of_selects (args := #[]) (mvT hZ (hw _ (List.mem_of_getElem? (i := 11) rfl)))) (mvT hZ (hw _ (List.mem_of_getElem? (i := 11) rfl))) (mvT hZ (hw _ (List.mem_of_getElem? (i := 10) rfl))) (by decide) (backOf (W := 0) (rm2 l Z a0 CX [] w_WEAK_YESTERDAY (1 : Int32) h0 O (by simp [(O_WEAK_YESTERDAY.ne O_RELEASE (by decide)), (O_WEAK_YESTERDAY.ne O_TRIGGERED (by decide))])) hZ (hw _ (List.mem_of_getElem? (i := 12) rfl)) (hw _ (List.mem_of_getElem? (i := 6) rfl)) (by decide) (by decide)) q24a q24c (g := (mkF m 37 #[.val (.int x0), .val (.int ((x0 &&& (2147483647 : Int32)) % (10 : Int32))), .val (.ref w_WEAK_YESTERDAY), .val (.int (1 : Int32))] [(.ref w_WEAK_YESTERDAY)])) rfl (by rw [hml]; rfl) (Steps.refl _) (argsL := []) (rest := []) (lenOf pd_1 rfl) rfl (by show 2 * 0 + _ ≤ _; exact Nat.le_of_eq rfl) (hb hby at_37) (fun _ _ => ⟨rfl, e23, (by decide : 0 + 0 ≤ _), (by decide : 0 + 0 ≤ _)⟩)
                  dsimp only [Pt.U, Pt.locs, Pt.cells, Pt.slots] at X24 l24 y24 z24 st24 hQ24
                  subst l24 y24 z24
                  obtain ⟨rfl, N24q, e24⟩ := hQ24
                  have N := Fr.app N N24q
                  refine own_tr (T' := T24) (F' := (mkF m 40 #[.val (.int x0), .val (.int ((x0 &&& (2147483647 : Int32)) % (10 : Int32))), .val (.ref w_WEAK_YESTERDAY), .val (.int (1 : Int32))] [(.int (1 : Int32))])) st24 ?_
                  refine own_st (T' := T24) (F' := (mkF m 41 #[.val (.int x0), .val (.int ((x0 &&& (2147483647 : Int32)) % (10 : Int32))), .val (.ref w_WEAK_YESTERDAY), .val (.int (1 : Int32))] [(.int (1 : Int32)), (.int (1 : Int32))])) (fun t k => XS.iloadN X24.here hx rfl (hb hby at_40) rfl k) ?_
                  refine own_st (T' := T24) (F' := (mkF m 44 #[.val (.int x0), .val (.int ((x0 &&& (2147483647 : Int32)) % (10 : Int32))), .val (.ref w_WEAK_YESTERDAY), .val (.int (1 : Int32))] [])) (fun t k => XS.icmpNo X24.here hx rfl (hb hby at_41) rfl (teq rfl).2 k) ?_
                  refine own_st (T' := T24) (F' := (mkF m 45 #[.val (.int x0), .val (.int ((x0 &&& (2147483647 : Int32)) % (10 : Int32))), .val (.ref w_WEAK_YESTERDAY), .val (.int (1 : Int32))] [(.int (1 : Int32))])) (fun t k => XS.iconst X24.here hx rfl (hb hby at_44) k) ?_
                  refine own_st (T' := T24) (F' := (mkF m 49 #[.val (.int x0), .val (.int ((x0 &&& (2147483647 : Int32)) % (10 : Int32))), .val (.ref w_WEAK_YESTERDAY), .val (.int (1 : Int32))] [(.int (1 : Int32))])) (fun t k => XS.goto X24.here hx rfl (pc0 := 45) (pc' := 49) rfl (hb hby at_45) (by decide) (by decide) k) ?_
                  exact own_retN X24 hx (t := .boolean) Bd.returns (by simp) (by decide) (hb hby at_49) hlk (by show Q0 Z _ T24.heap _; rw [e24]; exact ⟨rfl, N⟩) (by decide) (by decide)
                · by_cases hk8_25 : ((x0 &&& (2147483647 : Int32)) % (10 : Int32)) = (8 : Int32)
                  · refine own_st (T' := s₁) (F' := (mkF m 1 #[.val (.int x0), .unset, .unset, .unset] [(.int x0)])) (fun t k => XS.iloadN X0.here hx rfl (hb hby at_0) rfl k) ?_
                    refine own_st (T' := s₁) (F' := (mkF m 3 #[.val (.int x0), .unset, .unset, .unset] [(.int (2147483647 : Int32)), (.int x0)])) (fun t k => X0.ldcInt hx hown (mvT hZ (hw _ (List.mem_of_getElem? (i := 0) rfl))) (g := (mkF m 1 #[.val (.int x0), .unset, .unset, .unset] [(.int x0)])) rfl (hb hby at_1) _ k) ?_
                    refine own_st (T' := s₁) (F' := (mkF m 4 #[.val (.int x0), .unset, .unset, .unset] [(.int (x0 &&& (2147483647 : Int32)))])) (fun t k => XS.iand X0.here hx rfl (hb hby at_3) rfl k) ?_
                    refine own_st (T' := s₁) (F' := (mkF m 6 #[.val (.int x0), .unset, .unset, .unset] [(.int (10 : Int32)), (.int (x0 &&& (2147483647 : Int32)))])) (fun t k => XS.bipush X0.here hx rfl (hb hby at_4) k) ?_
                    refine own_st (T' := s₁) (F' := (mkF m 7 #[.val (.int x0), .unset, .unset, .unset] [(.int ((x0 &&& (2147483647 : Int32)) % (10 : Int32)))])) (fun t k => iremM (g := (mkF m 6 #[.val (.int x0), .unset, .unset, .unset] [(.int (10 : Int32)), (.int (x0 &&& (2147483647 : Int32)))])) X0 hx rfl (hb hby at_6) rfl (by decide) k) ?_
                    refine own_st (T' := s₁) (F' := (mkF m 8 #[.val (.int x0), .val (.int ((x0 &&& (2147483647 : Int32)) % (10 : Int32))), .unset, .unset] [])) (fun t k => XS.istoreN X0.here hx rfl (hb hby at_7) rfl (l' := #[.val (.int x0), .val (.int ((x0 &&& (2147483647 : Int32)) % (10 : Int32))), .unset, .unset]) rfl k) ?_
                    refine own_st (T' := s₁) (F' := (mkF m 9 #[.val (.int x0), .val (.int ((x0 &&& (2147483647 : Int32)) % (10 : Int32))), .unset, .unset] [(.int ((x0 &&& (2147483647 : Int32)) % (10 : Int32)))])) (fun t k => XS.iloadN X0.here hx rfl (hb hby at_8) rfl k) ?_
                    obtain ⟨v26, _, ⟨T26, L26, k26, n26⟩, -, X26, ⟨Lc26, hQ26, l26, y26, z26⟩, st26⟩ := Jvm.LawKit.callS X0 hx (y := (⟨"com/example/sundew/sundew/check/KindIsWeakPinLaw", "pick", "(I)Lcom/example/sundew/sundew/check/LtlFormulas$Kind;"⟩ : MethodName)) hown (mvT hZ (hw _ (List.mem_of_getElem? (i := 1) rfl))) (mvT hZ (hw _ (List.mem_of_getElem? (i := 2) rfl))) (mvT hZ (hw _ (List.mem_of_getElem? (i := 3) rfl))) (mvT hZ (hw _ (List.mem_of_getElem? (i := 4) rfl))) (by decide) (backOf (W := 0) (rm1 l Z a0 CX [] ((x0 &&& (2147483647 : Int32)) % (10 : Int32)) w_SINCE h0 O (by simp [hk0_1, hk1_4, hk2_7, hk3_10, hk4_13, hk5_16, hk6_19, hk7_22, hk8_25])) hZ (hw _ (List.mem_of_getElem? (i := 4) rfl)) (hw _ (List.mem_of_getElem? (i := 3) rfl)) (by decide) (by decide)) (g := (mkF m 9 #[.val (.int x0), .val (.int ((x0 &&& (2147483647 : Int32)) % (10 : Int32))), .unset, .unset] [(.int ((x0 &&& (2147483647 : Int32)) % (10 : Int32)))])) rfl (by rw [hml]; rfl) (argsL := [(.int ((x0 &&& (2147483647 : Int32)) % (10 : Int32)))]) (rest := []) (lenOf pd_0 rfl) rfl (by show 2 * 0 + _ ≤ _; exact Nat.le_of_eq rfl) (hb hby at_9) (fun _ _ => ⟨rfl, e0, (by decide : 0 + 0 ≤ _), (by decide : 0 + 0 ≤ _)⟩)
                    dsimp only [Pt.U, Pt.locs, Pt.cells, Pt.slots] at X26 l26 y26 z26 st26 hQ26
                    subst l26 y26 z26
                    obtain ⟨rfl, N26q, e26⟩ := hQ26
                    have N := Fr.app N N26q
                    refine own_st (T' := T26) (F' := (mkF m 12 #[.val (.int x0), .val (.int ((x0 &&& (2147483647 : Int32)) % (10 : Int32))), .unset, .unset] [(.ref w_SINCE)])) st26 ?_
                    refine own_st (T' := T26) (F' := (mkF m 13 #[.val (.int x0), .val (.int ((x0 &&& (2147483647 : Int32)) % (10 : Int32))), .val (.ref w_SINCE), .unset] [])) (fun t k => XS.astoreN X26.here hx rfl (hb hby at_12) rfl rfl (l' := #[.val (.int x0), .val (.int ((x0 &&& (2147483647 : Int32)) % (10 : Int32))), .val (.ref w_SINCE), .unset]) rfl k) ?_
                    refine own_st (T' := T26) (F' := (mkF m 14 #[.val (.int x0), .val (.int ((x0 &&& (2147483647 : Int32)) % (10 : Int32))), .val (.ref w_SINCE), .unset] [(.int ((x0 &&& (2147483647 : Int32)) % (10 : Int32)))])) (fun t k => XS.iloadN X26.here hx rfl (hb hby at_13) rfl k) ?_
                    refine own_st (T' := T26) (F' := (mkF m 15 #[.val (.int x0), .val (.int ((x0 &&& (2147483647 : Int32)) % (10 : Int32))), .val (.ref w_SINCE), .unset] [(.int (5 : Int32)), (.int ((x0 &&& (2147483647 : Int32)) % (10 : Int32)))])) (fun t k => XS.iconst X26.here hx rfl (hb hby at_14) k) ?_
                    refine own_st (T' := T26) (F' := (mkF m 18 #[.val (.int x0), .val (.int ((x0 &&& (2147483647 : Int32)) % (10 : Int32))), .val (.ref w_SINCE), .unset] [])) (fun t k => XS.icmpNo X26.here hx rfl (hb hby at_15) rfl (feq hk5_16).1 k) ?_
                    refine own_st (T' := T26) (F' := (mkF m 19 #[.val (.int x0), .val (.int ((x0 &&& (2147483647 : Int32)) % (10 : Int32))), .val (.ref w_SINCE), .unset] [(.int ((x0 &&& (2147483647 : Int32)) % (10 : Int32)))])) (fun t k => XS.iloadN X26.here hx rfl (hb hby at_18) rfl k) ?_
                    refine own_st (T' := T26) (F' := (mkF m 21 #[.val (.int x0), .val (.int ((x0 &&& (2147483647 : Int32)) % (10 : Int32))), .val (.ref w_SINCE), .unset] [(.int (7 : Int32)), (.int ((x0 &&& (2147483647 : Int32)) % (10 : Int32)))])) (fun t k => XS.bipush X26.here hx rfl (hb hby at_19) k) ?_
                    refine own_st (T' := T26) (F' := (mkF m 24 #[.val (.int x0), .val (.int ((x0 &&& (2147483647 : Int32)) % (10 : Int32))), .val (.ref w_SINCE), .unset] [])) (fun t k => XS.icmpNo X26.here hx rfl (hb hby at_21) rfl (feq hk7_22).1 k) ?_
                    refine own_st (T' := T26) (F' := (mkF m 25 #[.val (.int x0), .val (.int ((x0 &&& (2147483647 : Int32)) % (10 : Int32))), .val (.ref w_SINCE), .unset] [(.int ((x0 &&& (2147483647 : Int32)) % (10 : Int32)))])) (fun t k => XS.iloadN X26.here hx rfl (hb hby at_24) rfl k) ?_
                    refine own_st (T' := T26) (F' := (mkF m 27 #[.val (.int x0), .val (.int ((x0 &&& (2147483647 : Int32)) % (10 : Int32))), .val (.ref w_SINCE), .unset] [(.int (9 : Int32)), (.int ((x0 &&& (2147483647 : Int32)) % (10 : Int32)))])) (fun t k => XS.bipush X26.here hx rfl (hb hby at_25) k) ?_
                    refine own_st (T' := T26) (F' := (mkF m 34 #[.val (.int x0), .val (.int ((x0 &&& (2147483647 : Int32)) % (10 : Int32))), .val (.ref w_SINCE), .unset] [])) (fun t k => XS.icmpYes X26.here hx rfl (pc0 := 27) (pc' := 34) rfl (hb hby at_27) rfl (feq (fun q => absurd (hk8_25.symm.trans q) (by decide))).2 (by decide) (by decide) k) ?_
                    refine own_st (T' := T26) (F' := (mkF m 35 #[.val (.int x0), .val (.int ((x0 &&& (2147483647 : Int32)) % (10 : Int32))), .val (.ref w_SINCE), .unset] [(.int (0 : Int32))])) (fun t k => XS.iconst X26.here hx rfl (hb hby at_34) k) ?_
                    refine own_st (T' := T26) (F' := (mkF m 36 #[.val (.int x0), .val (.int ((x0 &&& (2147483647 : Int32)) % (10 : Int32))), .val (.ref w_SINCE), .val (.int (0 : Int32))] [])) (fun t k => XS.istoreN X26.here hx rfl (hb hby at_35) rfl (l' := #[.val (.int x0), .val (.int ((x0 &&& (2147483647 : Int32)) % (10 : Int32))), .val (.ref w_SINCE), .val (.int (0 : Int32))]) rfl k) ?_
                    refine own_st (T' := T26) (F' := (mkF m 37 #[.val (.int x0), .val (.int ((x0 &&& (2147483647 : Int32)) % (10 : Int32))), .val (.ref w_SINCE), .val (.int (0 : Int32))] [(.ref w_SINCE)])) (fun t k => XS.aloadN X26.here hx rfl (hb hby at_36) rfl rfl k) ?_
                    obtain ⟨cq27, kq27, q27a, q27b, q27c⟩ := isOf hZ e26 (E_SINCE.ext O)
                    obtain ⟨v27, _, ⟨T27, L27, k27, n27⟩, -, X27, ⟨Lc27, hQ27, l27, y27, z27⟩, st27⟩ := X26.virtualBack hx (y := (⟨"com/example/sundew/sundew/check/LtlFormulas$Kind", "isWeak", "()Z"⟩ : MethodName)) (z := (⟨"com/example/sundew/sundew/check/LtlFormulas$Kind", "isWeak", "()Z"⟩ : MethodName)) hown (mvT hZ (hw _ (List.mem_of_getElem? (i := 8) rfl))) (mvT hZ (hw _ (List.mem_of_getElem? (i := 9) rfl))) (notFace_of_selects (args := #[]) (mvT hZ (hw _ (List.mem_of_getElem? (i := 11) rfl)))) (mvT hZ (hw _ (List.mem_of_getElem? (i := 11) rfl))) (mvT hZ (hw _ (List.mem_of_getElem? (i := 10) rfl))) (by decide) (backOf (W := 0) (rm2 l Z a0 CX [] w_SINCE (0 : Int32) h0 O (by simp [(O_SINCE.ne O_RELEASE (by decide)), (O_SINCE.ne O_TRIGGERED (by decide)), (O_SINCE.ne O_WEAK_YESTERDAY (by decide))])) hZ (hw _ (List.mem_of_getElem? (i := 12) rfl)) (hw _ (List.mem_of_getElem? (i := 6) rfl)) (by decide) (by decide)) q27a q27c (g := (mkF m 37 #[.val (.int x0), .val (.int ((x0 &&& (2147483647 : Int32)) % (10 : Int32))), .val (.ref w_SINCE), .val (.int (0 : Int32))] [(.ref w_SINCE)])) rfl (by rw [hml]; rfl) (Steps.refl _) (argsL := []) (rest := []) (lenOf pd_1 rfl) rfl (by show 2 * 0 + _ ≤ _; exact Nat.le_of_eq rfl) (hb hby at_37) (fun _ _ => ⟨rfl, e26, (by decide : 0 + 0 ≤ _), (by decide : 0 + 0 ≤ _)⟩)
                    dsimp only [Pt.U, Pt.locs, Pt.cells, Pt.slots] at X27 l27 y27 z27 st27 hQ27
                    subst l27 y27 z27
                    obtain ⟨rfl, N27q, e27⟩ := hQ27
                    have N := Fr.app N N27q
                    refine own_tr (T' := T27) (F' := (mkF m 40 #[.val (.int x0), .val (.int ((x0 &&& (2147483647 : Int32)) % (10 : Int32))), .val (.ref w_SINCE), .val (.int (0 : Int32))] [(.int (0 : Int32))])) st27 ?_
                    refine own_st (T' := T27) (F' := (mkF m 41 #[.val (.int x0), .val (.int ((x0 &&& (2147483647 : Int32)) % (10 : Int32))), .val (.ref w_SINCE), .val (.int (0 : Int32))] [(.int (0 : Int32)), (.int (0 : Int32))])) (fun t k => XS.iloadN X27.here hx rfl (hb hby at_40) rfl k) ?_
                    refine own_st (T' := T27) (F' := (mkF m 44 #[.val (.int x0), .val (.int ((x0 &&& (2147483647 : Int32)) % (10 : Int32))), .val (.ref w_SINCE), .val (.int (0 : Int32))] [])) (fun t k => XS.icmpNo X27.here hx rfl (hb hby at_41) rfl (teq rfl).2 k) ?_
                    refine own_st (T' := T27) (F' := (mkF m 45 #[.val (.int x0), .val (.int ((x0 &&& (2147483647 : Int32)) % (10 : Int32))), .val (.ref w_SINCE), .val (.int (0 : Int32))] [(.int (1 : Int32))])) (fun t k => XS.iconst X27.here hx rfl (hb hby at_44) k) ?_
                    refine own_st (T' := T27) (F' := (mkF m 49 #[.val (.int x0), .val (.int ((x0 &&& (2147483647 : Int32)) % (10 : Int32))), .val (.ref w_SINCE), .val (.int (0 : Int32))] [(.int (1 : Int32))])) (fun t k => XS.goto X27.here hx rfl (pc0 := 45) (pc' := 49) rfl (hb hby at_45) (by decide) (by decide) k) ?_
                    exact own_retN X27 hx (t := .boolean) Bd.returns (by simp) (by decide) (hb hby at_49) hlk (by show Q0 Z _ T27.heap _; rw [e27]; exact ⟨rfl, N⟩) (by decide) (by decide)
                  · have hk9 : ((x0 &&& (2147483647 : Int32)) % (10 : Int32)) = (9 : Int32) := own_nine _ (own_mod10 x0).1 (own_mod10 x0).2 hk0_1 hk1_4 hk2_7 hk3_10 hk4_13 hk5_16 hk6_19 hk7_22 hk8_25
                    refine own_st (T' := s₁) (F' := (mkF m 1 #[.val (.int x0), .unset, .unset, .unset] [(.int x0)])) (fun t k => XS.iloadN X0.here hx rfl (hb hby at_0) rfl k) ?_
                    refine own_st (T' := s₁) (F' := (mkF m 3 #[.val (.int x0), .unset, .unset, .unset] [(.int (2147483647 : Int32)), (.int x0)])) (fun t k => X0.ldcInt hx hown (mvT hZ (hw _ (List.mem_of_getElem? (i := 0) rfl))) (g := (mkF m 1 #[.val (.int x0), .unset, .unset, .unset] [(.int x0)])) rfl (hb hby at_1) _ k) ?_
                    refine own_st (T' := s₁) (F' := (mkF m 4 #[.val (.int x0), .unset, .unset, .unset] [(.int (x0 &&& (2147483647 : Int32)))])) (fun t k => XS.iand X0.here hx rfl (hb hby at_3) rfl k) ?_
                    refine own_st (T' := s₁) (F' := (mkF m 6 #[.val (.int x0), .unset, .unset, .unset] [(.int (10 : Int32)), (.int (x0 &&& (2147483647 : Int32)))])) (fun t k => XS.bipush X0.here hx rfl (hb hby at_4) k) ?_
                    refine own_st (T' := s₁) (F' := (mkF m 7 #[.val (.int x0), .unset, .unset, .unset] [(.int ((x0 &&& (2147483647 : Int32)) % (10 : Int32)))])) (fun t k => iremM (g := (mkF m 6 #[.val (.int x0), .unset, .unset, .unset] [(.int (10 : Int32)), (.int (x0 &&& (2147483647 : Int32)))])) X0 hx rfl (hb hby at_6) rfl (by decide) k) ?_
                    refine own_st (T' := s₁) (F' := (mkF m 8 #[.val (.int x0), .val (.int ((x0 &&& (2147483647 : Int32)) % (10 : Int32))), .unset, .unset] [])) (fun t k => XS.istoreN X0.here hx rfl (hb hby at_7) rfl (l' := #[.val (.int x0), .val (.int ((x0 &&& (2147483647 : Int32)) % (10 : Int32))), .unset, .unset]) rfl k) ?_
                    refine own_st (T' := s₁) (F' := (mkF m 9 #[.val (.int x0), .val (.int ((x0 &&& (2147483647 : Int32)) % (10 : Int32))), .unset, .unset] [(.int ((x0 &&& (2147483647 : Int32)) % (10 : Int32)))])) (fun t k => XS.iloadN X0.here hx rfl (hb hby at_8) rfl k) ?_
                    obtain ⟨v28, _, ⟨T28, L28, k28, n28⟩, -, X28, ⟨Lc28, hQ28, l28, y28, z28⟩, st28⟩ := Jvm.LawKit.callS X0 hx (y := (⟨"com/example/sundew/sundew/check/KindIsWeakPinLaw", "pick", "(I)Lcom/example/sundew/sundew/check/LtlFormulas$Kind;"⟩ : MethodName)) hown (mvT hZ (hw _ (List.mem_of_getElem? (i := 1) rfl))) (mvT hZ (hw _ (List.mem_of_getElem? (i := 2) rfl))) (mvT hZ (hw _ (List.mem_of_getElem? (i := 3) rfl))) (mvT hZ (hw _ (List.mem_of_getElem? (i := 4) rfl))) (by decide) (backOf (W := 0) (rm1 l Z a0 CX [] ((x0 &&& (2147483647 : Int32)) % (10 : Int32)) w_TRIGGERED h0 O (by simp [hk0_1, hk1_4, hk2_7, hk3_10, hk4_13, hk5_16, hk6_19, hk7_22, hk8_25, hk9])) hZ (hw _ (List.mem_of_getElem? (i := 4) rfl)) (hw _ (List.mem_of_getElem? (i := 3) rfl)) (by decide) (by decide)) (g := (mkF m 9 #[.val (.int x0), .val (.int ((x0 &&& (2147483647 : Int32)) % (10 : Int32))), .unset, .unset] [(.int ((x0 &&& (2147483647 : Int32)) % (10 : Int32)))])) rfl (by rw [hml]; rfl) (argsL := [(.int ((x0 &&& (2147483647 : Int32)) % (10 : Int32)))]) (rest := []) (lenOf pd_0 rfl) rfl (by show 2 * 0 + _ ≤ _; exact Nat.le_of_eq rfl) (hb hby at_9) (fun _ _ => ⟨rfl, e0, (by decide : 0 + 0 ≤ _), (by decide : 0 + 0 ≤ _)⟩)
                    dsimp only [Pt.U, Pt.locs, Pt.cells, Pt.slots] at X28 l28 y28 z28 st28 hQ28
                    subst l28 y28 z28
                    obtain ⟨rfl, N28q, e28⟩ := hQ28
                    have N := Fr.app N N28q
                    refine own_st (T' := T28) (F' := (mkF m 12 #[.val (.int x0), .val (.int ((x0 &&& (2147483647 : Int32)) % (10 : Int32))), .unset, .unset] [(.ref w_TRIGGERED)])) st28 ?_
                    refine own_st (T' := T28) (F' := (mkF m 13 #[.val (.int x0), .val (.int ((x0 &&& (2147483647 : Int32)) % (10 : Int32))), .val (.ref w_TRIGGERED), .unset] [])) (fun t k => XS.astoreN X28.here hx rfl (hb hby at_12) rfl rfl (l' := #[.val (.int x0), .val (.int ((x0 &&& (2147483647 : Int32)) % (10 : Int32))), .val (.ref w_TRIGGERED), .unset]) rfl k) ?_
                    refine own_st (T' := T28) (F' := (mkF m 14 #[.val (.int x0), .val (.int ((x0 &&& (2147483647 : Int32)) % (10 : Int32))), .val (.ref w_TRIGGERED), .unset] [(.int ((x0 &&& (2147483647 : Int32)) % (10 : Int32)))])) (fun t k => XS.iloadN X28.here hx rfl (hb hby at_13) rfl k) ?_
                    refine own_st (T' := T28) (F' := (mkF m 15 #[.val (.int x0), .val (.int ((x0 &&& (2147483647 : Int32)) % (10 : Int32))), .val (.ref w_TRIGGERED), .unset] [(.int (5 : Int32)), (.int ((x0 &&& (2147483647 : Int32)) % (10 : Int32)))])) (fun t k => XS.iconst X28.here hx rfl (hb hby at_14) k) ?_
                    refine own_st (T' := T28) (F' := (mkF m 18 #[.val (.int x0), .val (.int ((x0 &&& (2147483647 : Int32)) % (10 : Int32))), .val (.ref w_TRIGGERED), .unset] [])) (fun t k => XS.icmpNo X28.here hx rfl (hb hby at_15) rfl (feq hk5_16).1 k) ?_
                    refine own_st (T' := T28) (F' := (mkF m 19 #[.val (.int x0), .val (.int ((x0 &&& (2147483647 : Int32)) % (10 : Int32))), .val (.ref w_TRIGGERED), .unset] [(.int ((x0 &&& (2147483647 : Int32)) % (10 : Int32)))])) (fun t k => XS.iloadN X28.here hx rfl (hb hby at_18) rfl k) ?_
                    refine own_st (T' := T28) (F' := (mkF m 21 #[.val (.int x0), .val (.int ((x0 &&& (2147483647 : Int32)) % (10 : Int32))), .val (.ref w_TRIGGERED), .unset] [(.int (7 : Int32)), (.int ((x0 &&& (2147483647 : Int32)) % (10 : Int32)))])) (fun t k => XS.bipush X28.here hx rfl (hb hby at_19) k) ?_
                    refine own_st (T' := T28) (F' := (mkF m 24 #[.val (.int x0), .val (.int ((x0 &&& (2147483647 : Int32)) % (10 : Int32))), .val (.ref w_TRIGGERED), .unset] [])) (fun t k => XS.icmpNo X28.here hx rfl (hb hby at_21) rfl (feq hk7_22).1 k) ?_
                    refine own_st (T' := T28) (F' := (mkF m 25 #[.val (.int x0), .val (.int ((x0 &&& (2147483647 : Int32)) % (10 : Int32))), .val (.ref w_TRIGGERED), .unset] [(.int ((x0 &&& (2147483647 : Int32)) % (10 : Int32)))])) (fun t k => XS.iloadN X28.here hx rfl (hb hby at_24) rfl k) ?_
                    refine own_st (T' := T28) (F' := (mkF m 27 #[.val (.int x0), .val (.int ((x0 &&& (2147483647 : Int32)) % (10 : Int32))), .val (.ref w_TRIGGERED), .unset] [(.int (9 : Int32)), (.int ((x0 &&& (2147483647 : Int32)) % (10 : Int32)))])) (fun t k => XS.bipush X28.here hx rfl (hb hby at_25) k) ?_
                    refine own_st (T' := T28) (F' := (mkF m 30 #[.val (.int x0), .val (.int ((x0 &&& (2147483647 : Int32)) % (10 : Int32))), .val (.ref w_TRIGGERED), .unset] [])) (fun t k => XS.icmpNo X28.here hx rfl (hb hby at_27) rfl (teq hk9).2 k) ?_
                    refine own_st (T' := T28) (F' := (mkF m 31 #[.val (.int x0), .val (.int ((x0 &&& (2147483647 : Int32)) % (10 : Int32))), .val (.ref w_TRIGGERED), .unset] [(.int (1 : Int32))])) (fun t k => XS.iconst X28.here hx rfl (hb hby at_30) k) ?_
                    refine own_st (T' := T28) (F' := (mkF m 35 #[.val (.int x0), .val (.int ((x0 &&& (2147483647 : Int32)) % (10 : Int32))), .val (.ref w_TRIGGERED), .unset] [(.int (1 : Int32))])) (fun t k => XS.goto X28.here hx rfl (pc0 := 31) (pc' := 35) rfl (hb hby at_31) (by decide) (by decide) k) ?_
                    refine own_st (T' := T28) (F' := (mkF m 36 #[.val (.int x0), .val (.int ((x0 &&& (2147483647 : Int32)) % (10 : Int32))), .val (.ref w_TRIGGERED), .val (.int (1 : Int32))] [])) (fun t k => XS.istoreN X28.here hx rfl (hb hby at_35) rfl (l' := #[.val (.int x0), .val (.int ((x0 &&& (2147483647 : Int32)) % (10 : Int32))), .val (.ref w_TRIGGERED), .val (.int (1 : Int32))]) rfl k) ?_
                    refine own_st (T' := T28) (F' := (mkF m 37 #[.val (.int x0), .val (.int ((x0 &&& (2147483647 : Int32)) % (10 : Int32))), .val (.ref w_TRIGGERED), .val (.int (1 : Int32))] [(.ref w_TRIGGERED)])) (fun t k => XS.aloadN X28.here hx rfl (hb hby at_36) rfl rfl k) ?_
                    obtain ⟨cq29, kq29, q29a, q29b, q29c⟩ := isOf hZ e28 (E_TRIGGERED.ext O)
                    obtain ⟨v29, _, ⟨T29, L29, k29, n29⟩, -, X29, ⟨Lc29, hQ29, l29, y29, z29⟩, st29⟩ := X28.virtualBack hx (y := (⟨"com/example/sundew/sundew/check/LtlFormulas$Kind", "isWeak", "()Z"⟩ : MethodName)) (z := (⟨"com/example/sundew/sundew/check/LtlFormulas$Kind", "isWeak", "()Z"⟩ : MethodName)) hown (mvT hZ (hw _ (List.mem_of_getElem? (i := 8) rfl))) (mvT hZ (hw _ (List.mem_of_getElem? (i := 9) rfl))) (notFace_of_selects (args := #[]) (mvT hZ (hw _ (List.mem_of_getElem? (i := 11) rfl)))) (mvT hZ (hw _ (List.mem_of_getElem? (i := 11) rfl))) (mvT hZ (hw _ (List.mem_of_getElem? (i := 10) rfl))) (by decide) (backOf (W := 0) (rm2 l Z a0 CX [] w_TRIGGERED (1 : Int32) h0 O (by simp [(O_TRIGGERED.ne O_RELEASE (by decide)), (O_TRIGGERED.ne O_WEAK_YESTERDAY (by decide))])) hZ (hw _ (List.mem_of_getElem? (i := 12) rfl)) (hw _ (List.mem_of_getElem? (i := 6) rfl)) (by decide) (by decide)) q29a q29c (g := (mkF m 37 #[.val (.int x0), .val (.int ((x0 &&& (2147483647 : Int32)) % (10 : Int32))), .val (.ref w_TRIGGERED), .val (.int (1 : Int32))] [(.ref w_TRIGGERED)])) rfl (by rw [hml]; rfl) (Steps.refl _) (argsL := []) (rest := []) (lenOf pd_1 rfl) rfl (by show 2 * 0 + _ ≤ _; exact Nat.le_of_eq rfl) (hb hby at_37) (fun _ _ => ⟨rfl, e28, (by decide : 0 + 0 ≤ _), (by decide : 0 + 0 ≤ _)⟩)
                    dsimp only [Pt.U, Pt.locs, Pt.cells, Pt.slots] at X29 l29 y29 z29 st29 hQ29
                    subst l29 y29 z29
                    obtain ⟨rfl, N29q, e29⟩ := hQ29
                    have N := Fr.app N N29q
                    refine own_tr (T' := T29) (F' := (mkF m 40 #[.val (.int x0), .val (.int ((x0 &&& (2147483647 : Int32)) % (10 : Int32))), .val (.ref w_TRIGGERED), .val (.int (1 : Int32))] [(.int (1 : Int32))])) st29 ?_
                    refine own_st (T' := T29) (F' := (mkF m 41 #[.val (.int x0), .val (.int ((x0 &&& (2147483647 : Int32)) % (10 : Int32))), .val (.ref w_TRIGGERED), .val (.int (1 : Int32))] [(.int (1 : Int32)), (.int (1 : Int32))])) (fun t k => XS.iloadN X29.here hx rfl (hb hby at_40) rfl k) ?_
                    refine own_st (T' := T29) (F' := (mkF m 44 #[.val (.int x0), .val (.int ((x0 &&& (2147483647 : Int32)) % (10 : Int32))), .val (.ref w_TRIGGERED), .val (.int (1 : Int32))] [])) (fun t k => XS.icmpNo X29.here hx rfl (hb hby at_41) rfl (teq rfl).2 k) ?_
                    refine own_st (T' := T29) (F' := (mkF m 45 #[.val (.int x0), .val (.int ((x0 &&& (2147483647 : Int32)) % (10 : Int32))), .val (.ref w_TRIGGERED), .val (.int (1 : Int32))] [(.int (1 : Int32))])) (fun t k => XS.iconst X29.here hx rfl (hb hby at_44) k) ?_
                    refine own_st (T' := T29) (F' := (mkF m 49 #[.val (.int x0), .val (.int ((x0 &&& (2147483647 : Int32)) % (10 : Int32))), .val (.ref w_TRIGGERED), .val (.int (1 : Int32))] [(.int (1 : Int32))])) (fun t k => XS.goto X29.here hx rfl (pc0 := 45) (pc' := 49) rfl (hb hby at_45) (by decide) (by decide) k) ?_
                    exact own_retN X29 hx (t := .boolean) Bd.returns (by simp) (by decide) (hb hby at_49) hlk (by show Q0 Z _ T29.heap _; rw [e29]; exact ⟨rfl, N⟩) (by decide) (by decide)
set_option maxRecDepth 65536 in
set_option maxHeartbeats 40000000 in
theorem comes_1 {Post : Tables → Env → Array Value → State → Outcome → State → Prop} (hpost : ∀ tb e args s v u, (limb_1_1.after args s (.returned v) u = true ∧ limb_1_2.after args s (.returned v) u = true ∧ True) → FrameEnd s (.returned v) u (Jvm.fieldLocs frame_1_writes args s ++ Jvm.arrayLocs frame_1_arrays args s ++ Jvm.staticLocs frame_1_statics s) 0 0 → Post tb e args s (.returned v) u) :
    ArmFor flags0 classFile x code maxLocals ret World_1 tables_1 room_1 Calls_1 rest_1 Pre_1 Post := by
  intro l hfl _ _ p e ha hc hk s m args below hf hA hF happ hP
  obtain ⟨hcalls, hrest, hpre⟩ := hP
  obtain ⟨-, -, -, hnamed, -, -, -, hat⟩ := (Spec.applies_iff hf).mp happ
  obtain ⟨hg, hn⟩ := and_e (Cond.before_iff.mp (show (Jvm.Cond.and given_1 narrow_1).before args s = true from hpre))
  obtain ⟨g0, g1⟩ := and_e hg
  obtain ⟨w0, rfl⟩ : ∃ w0 : Value, args = #[w0] := by
    have hs : args.size = 1 := by simpa [Cond.value, given_1] using g0
    obtain ⟨L⟩ := args
    match L, hs with
    | [w0], _ => exact ⟨w0, rfl⟩
  have hw := fun d (hd : d ∈ tables_1) => atoms_spec (ws := Jvm.Cond.code x code maxLocals ret :: tables_1) hat d (List.mem_cons_of_mem _ hd)
  have hfit : Fit s := fun {y c} hc i hi => by
    obtain ⟨ha, rfl⟩ := Array.getElem?_eq_some_iff.mp hc
    have q := List.all_eq_true.mp ((Array.all_eq_true_iff_forall_mem.mp hF) _ (Array.getElem_mem ha)) i (List.mem_range.mpr hi)
    simpa [Array.getElem?_eq_getElem hi] using q
  obtain ⟨i0, ei0⟩ := is_v g1
  obtain rfl : w0 = (.int i0) := Option.some.inj ei0
  obtain ⟨n0a, n0b⟩ := and_e hn
  obtain ⟨n1a, n1b⟩ := and_e n0b
  obtain ⟨n2a, n2b⟩ := and_e n1b
  obtain ⟨n3a, n3b⟩ := and_e n2b
  obtain ⟨n4a, n4b⟩ := and_e n3b
  obtain ⟨n5a, n5b⟩ := and_e n4b
  obtain ⟨n6a, n6b⟩ := and_e n5b
  obtain ⟨n7a, n7b⟩ := and_e n6b
  obtain ⟨n8a, n8b⟩ := and_e n7b
  obtain ⟨n9a, n9b⟩ := and_e n8b
  obtain ⟨n10a, n10b⟩ := and_e n9b
  obtain ⟨n11a, n11b⟩ := and_e n10b
  obtain ⟨n12a, n12b⟩ := and_e n11b
  obtain ⟨n13a, n13b⟩ := and_e n12b
  obtain ⟨n14a, n14b⟩ := and_e n13b
  obtain ⟨n15a, n15b⟩ := and_e n14b
  obtain ⟨n16a, n16b⟩ := and_e n15b
  obtain ⟨n17a, n17b⟩ := and_e n16b
  obtain ⟨n18a, n18b⟩ := and_e n17b
  obtain ⟨w_ATOM, v_ATOM⟩ := exa_v n0a
  have E_ATOM := Exa.start v_ATOM n0a
  have S_ATOM := Sta.start v_ATOM (Or.inr ⟨(hw _ (List.mem_of_getElem? (i := 6) rfl)), (hw _ (List.mem_of_getElem? (i := 7) rfl))⟩)
  obtain ⟨w_RELEASE, v_RELEASE⟩ := exa_v n1a
  have E_RELEASE := Exa.start v_RELEASE n1a
  have S_RELEASE := Sta.start v_RELEASE (Or.inr ⟨(hw _ (List.mem_of_getElem? (i := 6) rfl)), (hw _ (List.mem_of_getElem? (i := 14) rfl))⟩)
  obtain ⟨w_TRIGGERED, v_TRIGGERED⟩ := exa_v n4a
  have E_TRIGGERED := Exa.start v_TRIGGERED n4a
  have S_TRIGGERED := Sta.start v_TRIGGERED (Or.inr ⟨(hw _ (List.mem_of_getElem? (i := 6) rfl)), (hw _ (List.mem_of_getElem? (i := 16) rfl))⟩)
  obtain ⟨w_WEAK_YESTERDAY, v_WEAK_YESTERDAY⟩ := exa_v n6a
  have E_WEAK_YESTERDAY := Exa.start v_WEAK_YESTERDAY n6a
  have S_WEAK_YESTERDAY := Sta.start v_WEAK_YESTERDAY (Or.inr ⟨(hw _ (List.mem_of_getElem? (i := 6) rfl)), (hw _ (List.mem_of_getElem? (i := 18) rfl))⟩)
  obtain ⟨w_NEXT, v_NEXT⟩ := exa_v n8a
  have E_NEXT := Exa.start v_NEXT n8a
  have S_NEXT := Sta.start v_NEXT (Or.inr ⟨(hw _ (List.mem_of_getElem? (i := 6) rfl)), (hw _ (List.mem_of_getElem? (i := 20) rfl))⟩)
  obtain ⟨w_AND, v_AND⟩ := exa_v n10a
  have E_AND := Exa.start v_AND n10a
  have S_AND := Sta.start v_AND (Or.inr ⟨(hw _ (List.mem_of_getElem? (i := 6) rfl)), (hw _ (List.mem_of_getElem? (i := 22) rfl))⟩)
  obtain ⟨w_UNTIL, v_UNTIL⟩ := exa_v n12a
  have E_UNTIL := Exa.start v_UNTIL n12a
  have S_UNTIL := Sta.start v_UNTIL (Or.inr ⟨(hw _ (List.mem_of_getElem? (i := 6) rfl)), (hw _ (List.mem_of_getElem? (i := 24) rfl))⟩)
  obtain ⟨w_OR, v_OR⟩ := exa_v n14a
  have E_OR := Exa.start v_OR n14a
  have S_OR := Sta.start v_OR (Or.inr ⟨(hw _ (List.mem_of_getElem? (i := 6) rfl)), (hw _ (List.mem_of_getElem? (i := 27) rfl))⟩)
  obtain ⟨w_SINCE, v_SINCE⟩ := exa_v n16a
  have E_SINCE := Exa.start v_SINCE n16a
  have S_SINCE := Sta.start v_SINCE (Or.inr ⟨(hw _ (List.mem_of_getElem? (i := 6) rfl)), (hw _ (List.mem_of_getElem? (i := 29) rfl))⟩)
  obtain ⟨w_YESTERDAY, v_YESTERDAY⟩ := exa_v n18a
  have E_YESTERDAY := Exa.start v_YESTERDAY n18a
  have S_YESTERDAY := Sta.start v_YESTERDAY (Or.inr ⟨(hw _ (List.mem_of_getElem? (i := 6) rfl)), (hw _ (List.mem_of_getElem? (i := 33) rfl))⟩)
  have O_ATOM := Fld.start (own_fld_int v_ATOM n2a)
  have O_RELEASE := Fld.start (own_fld_int v_RELEASE n3a)
  have O_TRIGGERED := Fld.start (own_fld_int v_TRIGGERED n5a)
  have O_WEAK_YESTERDAY := Fld.start (own_fld_int v_WEAK_YESTERDAY n7a)
  have O_NEXT := Fld.start (own_fld_int v_NEXT n9a)
  have O_AND := Fld.start (own_fld_int v_AND n11a)
  have O_UNTIL := Fld.start (own_fld_int v_UNTIL n13a)
  have O_OR := Fld.start (own_fld_int v_OR n15a)
  have O_SINCE := Fld.start (own_fld_int v_SINCE n17a)
  have O_YESTERDAY := Fld.start (own_fld_int v_YESTERDAY n18b)
  have CX : Ctx s _ w_ATOM w_RELEASE w_TRIGGERED w_WEAK_YESTERDAY w_NEXT w_AND w_UNTIL w_OR w_SINCE w_YESTERDAY := ⟨hw, S_ATOM, E_ATOM, S_RELEASE, E_RELEASE, S_TRIGGERED, E_TRIGGERED, S_WEAK_YESTERDAY, E_WEAK_YESTERDAY, S_NEXT, E_NEXT, S_AND, E_AND, S_UNTIL, E_UNTIL, S_OR, E_OR, S_SINCE, E_SINCE, S_YESTERDAY, E_YESTERDAY, O_ATOM, O_RELEASE, O_TRIGGERED, O_WEAK_YESTERDAY, O_NEXT, O_AND, O_UNTIL, O_OR, O_SINCE, O_YESTERDAY, trivial⟩
  obtain ⟨n, o, h1, h2, h3, _, L, rfl, ⟨rfl, N⟩, hq⟩ := rm0 l s _ CX tables_1 i0 s.heap (own_ext_refl _)  p e ha hc hk s m _ below hf ((Spec.applies_iff_loose hf).mp happ).1 ⟨rfl, State.Warmed39.refl s, rfl⟩ trivial
  refine ⟨n, _, h1, h2, h3, hpost _ _ _ _ _ _ ⟨Cond.after_iff.mpr rfl, Cond.after_iff.mpr (eq_i res_at (Term.int_eval (1)) rfl), trivial⟩ ⟨hq.1, hq.2.1, (hq.2.2.sift fun y hy => Or.inr (N y hy)).mono (by decide) (by decide)⟩⟩
theorem main_1_1 : Claimed_1_1 := comes_1 fun _ _ _ _ _ _ h hF => ⟨h.1, hF⟩
theorem main_1_2 : Claimed_1_2 := comes_1 fun _ _ _ _ _ _ h hF => ⟨h.2.1, hF⟩
end Jvm.Pilot.@@N@@
namespace Jvm.Pilot.@@N@@
open Jvm Jvm.ClassFile Sem Op Lib Jvm.Free Jvm.Stand Jvm.Pilot.@@N@@.Jvm.D
/-! MADE BY PROGRAM (witnessworld.py) out of the Statement's table words and the real class files: 12 classes; the members and pool entries that the words name. The judged class is class 1, her method 2. -/
namespace start1
open Jvm.ClassFile
def u (s : String) : CpInfo := .utf8 (stringToUtf16 s)
/-- a pool by its gaps: so many unusable entries, then the entry; so many at the end -/
def gap : Nat → List CpInfo → List CpInfo
  | 0, r => r
  | n + 1, r => .unusable :: gap n r
def poolList (es : List (Nat × CpInfo)) (last : Nat) : List CpInfo := es.foldr (fun e r => gap e.1 (e.2 :: r)) (gap last [])
def pool (es : List (Nat × CpInfo)) (last : Nat) : Array CpInfo := ⟨poolList es last⟩
def fileOf (pool : Array CpInfo) (this : Nat) (attrs : Array Attribute := #[]) (ms : Array MethodInfo := #[]) (fl : Nat := 33) (sup : Nat := 0) (ifs : Array Nat := #[]) (fds : Array FieldInfo := #[]) : ClassFile where
  minorVersion := 0
  majorVersion := 65
  constantPool := pool
  accessFlags := fl
  thisClass := this
  superClass := sup
  interfaces := ifs
  fields := fds
  methods := ms
  attributes := attrs
def plain (name : String) (sup : Option ClassId) : Class where
  name := name
  kind := .ordinary
  loader := none
  accessFlags := 33
  super := sup
  interfaces := #[]
  cf := none
  fields := #[]
  methods := #[]
  instanceTypes := #[]
  staticTypes := #[]
  resolved := #[]
  callSites := []
  init := .initialized
  statics := none
  mirror := none

def pool0 : Array CpInfo := pool [(5, u "<init>"), (0, u "()V"), (1, .class_ 10), (1, u "java/lang/Object")] 113

def k0m0 : Method := { name := "<init>", desc := "()V", sig := { parameters := [], returnType := none }, accessFlags := 1, code := none }
/-- java/lang/Object -/
def k0 : Class := { plain "java/lang/Object" none with
  accessFlags := 33
  interfaces := #[]
  cf := some (fileOf pool0 8 #[] #[{ accessFlags := 1, nameIndex := 5, descriptorIndex := 6, attributes := #[] }] 33 0 #[] #[])
  fields := #[]
  methods := #[k0m0]
  instanceTypes := #[]
  staticTypes := #[]
  resolved := Array.replicate 124 none
  statics := none }

def pool1 : Array CpInfo := pool [(2, .class_ 4), (1, u "java/lang/Object"), (0, u "<init>"), (0, u "()V"), (0, .fieldref 8 9), (0, .class_ 10), (0, .nameAndType 11 12), (0, u "com/example/sundew/sundew/check/LtlFormulas$Kind"), (0, u "ATOM"), (0, u "Lcom/example/sundew/sundew/check/LtlFormulas$Kind;"), (0, .fieldref 8 14), (0, .nameAndType 15 12), (0, u "AND"), (0, .fieldref 8 17), (0, .nameAndType 18 12), (0, u "OR"), (0, .fieldref 8 20), (0, .nameAndType 21 12), (0, u "NEXT"), (0, .fieldref 8 23), (0, .nameAndType 24 12), (0, u "UNTIL"), (0, .fieldref 8 26), (0, .nameAndType 27 12), (0, u "RELEASE"), (0, .fieldref 8 29), (0, .nameAndType 30 12), (0, u "YESTERDAY"), (0, .fieldref 8 32), (0, .nameAndType 33 12), (0, u "WEAK_YESTERDAY"), (0, .fieldref 8 35), (0, .nameAndType 36 12), (0, u "SINCE"), (0, .fieldref 8 38), (0, .nameAndType 39 12), (0, u "TRIGGERED"), (0, .integer 2147483647), (0, .methodref 42 43), (0, .class_ 44), (0, .nameAndType 45 46), (0, u "com/example/sundew/sundew/check/KindIsWeakPinLaw"), (0, u "pick"), (0, u "(I)Lcom/example/sundew/sundew/check/LtlFormulas$Kind;"), (0, .methodref 8 48), (0, .nameAndType 49 50), (0, u "isWeak"), (0, u "()Z"), (3, u "law"), (0, u "(I)Z")] 6

def k1m0 : Method := { name := "<init>", desc := "()V", sig := { parameters := [], returnType := none }, accessFlags := 2, code := none }
def k1c1 : Code := { maxStack := 2, maxLocals := 1, code := method_2_code, exceptionTable := #[], attributes := #[] }
def k1m1 : Method := { name := "pick", desc := "(I)Lcom/example/sundew/sundew/check/LtlFormulas$Kind;", sig := { parameters := [.int], returnType := some (.object "com/example/sundew/sundew/check/LtlFormulas$Kind") }, accessFlags := 10, code := some k1c1 }
def k1c2 : Code := { maxStack := 2, maxLocals := 4, code := code, exceptionTable := #[], attributes := #[] }
def k1m2 : Method := { name := "law", desc := "(I)Z", sig := { parameters := [.int], returnType := some .boolean }, accessFlags := 9, code := some k1c2 }
/-- com/example/sundew/sundew/check/KindIsWeakPinLaw -/
def k1 : Class := { plain "com/example/sundew/sundew/check/KindIsWeakPinLaw" (some 0) with
  accessFlags := 49
  interfaces := #[]
  cf := some (fileOf pool1 42 #[] #[{ accessFlags := 2, nameIndex := 5, descriptorIndex := 6, attributes := #[] }, { accessFlags := 10, nameIndex := 45, descriptorIndex := 46, attributes := #[] }, { accessFlags := 9, nameIndex := 54, descriptorIndex := 55, attributes := #[] }] 49 2 #[] #[])
  fields := #[]
  methods := #[k1m0, k1m1, k1m2]
  instanceTypes := #[]
  staticTypes := #[]
  resolved := Array.replicate 62 none
  statics := none }

def pool2 : Array CpInfo := pool [(1, .class_ 2), (0, u "java/lang/constant/Constable"), (0, .class_ 4), (0, u "java/lang/Object")] 6

/-- java/lang/constant/Constable -/
def k2 : Class := { plain "java/lang/constant/Constable" (some 0) with
  accessFlags := 1537
  interfaces := #[]
  cf := some (fileOf pool2 1 #[] #[] 1537 3 #[] #[])
  fields := #[]
  methods := #[]
  instanceTypes := #[]
  staticTypes := #[]
  resolved := Array.replicate 11 none
  statics := none }

def pool3 : Array CpInfo := pool [(1, .class_ 2), (0, u "java/lang/Comparable"), (0, .class_ 4), (0, u "java/lang/Object")] 7

/-- java/lang/Comparable -/
def k3 : Class := { plain "java/lang/Comparable" (some 0) with
  accessFlags := 1537
  interfaces := #[]
  cf := some (fileOf pool3 1 #[] #[] 1537 3 #[] #[])
  fields := #[]
  methods := #[]
  instanceTypes := #[]
  staticTypes := #[]
  resolved := Array.replicate 12 none
  statics := none }

def pool4 : Array CpInfo := pool [(1, .class_ 2), (0, u "java/io/Serializable"), (0, .class_ 4), (0, u "java/lang/Object")] 2

/-- java/io/Serializable -/
def k4 : Class := { plain "java/io/Serializable" (some 0) with
  accessFlags := 1537
  interfaces := #[]
  cf := some (fileOf pool4 1 #[] #[] 1537 3 #[] #[])
  fields := #[]
  methods := #[]
  instanceTypes := #[]
  staticTypes := #[]
  resolved := Array.replicate 7 none
  statics := none }

def pool5 : Array CpInfo := pool [(2, .class_ 4), (1, u "java/lang/Enum"), (0, u "name"), (0, u "Ljava/lang/String;"), (2, u "ordinal"), (0, u "I"), (1, .class_ 14), (1, u "java/lang/Object"), (4, u "hash"), (86, .class_ 108), (1, u "java/lang/Enum$EnumDesc"), (2, .class_ 112), (0, u "java/lang/constant/Constable"), (0, .class_ 114), (0, u "java/lang/Comparable"), (0, .class_ 116), (0, u "java/io/Serializable")] 87

/-- java/lang/Enum -/
def k5 : Class := { plain "java/lang/Enum" (some 0) with
  accessFlags := 1057
  interfaces := #[2, 3, 4]
  cf := some (fileOf pool5 2 #[.nestMembers #[106]] #[] 1057 12 #[111, 113, 115] #[{ accessFlags := 18, nameIndex := 5, descriptorIndex := 6, attributes := #[] }, { accessFlags := 18, nameIndex := 9, descriptorIndex := 10, attributes := #[] }, { accessFlags := 2, nameIndex := 19, descriptorIndex := 10, attributes := #[] }])
  fields := #[{ name := "name", type := (.object "java/lang/String"), accessFlags := 18, slot := 0, constantValue := 0 }, { name := "ordinal", type := .int, accessFlags := 18, slot := 1, constantValue := 0 }, { name := "hash", type := .int, accessFlags := 2, slot := 2, constantValue := 0 }]
  methods := #[]
  instanceTypes := #[(.object "java/lang/String"), .int, .int]
  staticTypes := #[]
  resolved := Array.replicate 204 none
  statics := none }

def pool6 : Array CpInfo := pool [(1, .class_ 2), (0, u "com/example/sundew/sundew/check/LtlFormulas$Kind"), (2, u "ATOM"), (0, u "Lcom/example/sundew/sundew/check/LtlFormulas$Kind;"), (2, u "AND"), (2, u "OR"), (2, u "NEXT"), (2, u "UNTIL"), (0, .fieldref 1 20), (0, .nameAndType 21 6), (0, u "RELEASE"), (2, u "YESTERDAY"), (0, .fieldref 1 26), (0, .nameAndType 27 6), (0, u "WEAK_YESTERDAY"), (2, u "SINCE"), (0, .fieldref 1 32), (0, .nameAndType 33 6), (0, u "TRIGGERED"), (2, u "$VALUES"), (0, u "[Lcom/example/sundew/sundew/check/LtlFormulas$Kind;"), (6, .class_ 46), (1, u "java/lang/Enum"), (8, u "arity"), (0, u "I"), (2, u "time"), (0, u "Lcom/example/sundew/sundew/check/LtlFormulas$Time;"), (37, u "isWeak"), (0, u "()Z"), (7, .class_ 108), (0, u "com/example/sundew/sundew/check/LtlFormulas")] 3

def k6c0 : Code := { maxStack := 2, maxLocals := 1, code := prog_29_method_6_code, exceptionTable := #[], attributes := #[] }
def k6m0 : Method := { name := "isWeak", desc := "()Z", sig := { parameters := [], returnType := some .boolean }, accessFlags := 0, code := some k6c0 }
/-- com/example/sundew/sundew/check/LtlFormulas$Kind -/
def k6 : Class := { plain "com/example/sundew/sundew/check/LtlFormulas$Kind" (some 5) with
  accessFlags := 16432
  interfaces := #[]
  cf := some (fileOf pool6 1 #[.nestHost 107] #[{ accessFlags := 0, nameIndex := 98, descriptorIndex := 99, attributes := #[] }] 16432 44 #[] #[{ accessFlags := 16409, nameIndex := 5, descriptorIndex := 6, attributes := #[] }, { accessFlags := 16409, nameIndex := 9, descriptorIndex := 6, attributes := #[] }, { accessFlags := 16409, nameIndex := 12, descriptorIndex := 6, attributes := #[] }, { accessFlags := 16409, nameIndex := 15, descriptorIndex := 6, attributes := #[] }, { accessFlags := 16409, nameIndex := 18, descriptorIndex := 6, attributes := #[] }, { accessFlags := 16409, nameIndex := 21, descriptorIndex := 6, attributes := #[] }, { accessFlags := 16409, nameIndex := 24, descriptorIndex := 6, attributes := #[] }, { accessFlags := 16409, nameIndex := 27, descriptorIndex := 6, attributes := #[] }, { accessFlags := 16409, nameIndex := 30, descriptorIndex := 6, attributes := #[] }, { accessFlags := 16409, nameIndex := 33, descriptorIndex := 6, attributes := #[] }, { accessFlags := 18, nameIndex := 55, descriptorIndex := 56, attributes := #[] }, { accessFlags := 18, nameIndex := 59, descriptorIndex := 60, attributes := #[] }, { accessFlags := 4122, nameIndex := 36, descriptorIndex := 37, attributes := #[] }])
  fields := #[{ name := "ATOM", type := (.object "com/example/sundew/sundew/check/LtlFormulas$Kind"), accessFlags := 16409, slot := 0, constantValue := 0 }, { name := "AND", type := (.object "com/example/sundew/sundew/check/LtlFormulas$Kind"), accessFlags := 16409, slot := 1, constantValue := 0 }, { name := "OR", type := (.object "com/example/sundew/sundew/check/LtlFormulas$Kind"), accessFlags := 16409, slot := 2, constantValue := 0 }, { name := "NEXT", type := (.object "com/example/sundew/sundew/check/LtlFormulas$Kind"), accessFlags := 16409, slot := 3, constantValue := 0 }, { name := "UNTIL", type := (.object "com/example/sundew/sundew/check/LtlFormulas$Kind"), accessFlags := 16409, slot := 4, constantValue := 0 }, { name := "RELEASE", type := (.object "com/example/sundew/sundew/check/LtlFormulas$Kind"), accessFlags := 16409, slot := 5, constantValue := 0 }, { name := "YESTERDAY", type := (.object "com/example/sundew/sundew/check/LtlFormulas$Kind"), accessFlags := 16409, slot := 6, constantValue := 0 }, { name := "WEAK_YESTERDAY", type := (.object "com/example/sundew/sundew/check/LtlFormulas$Kind"), accessFlags := 16409, slot := 7, constantValue := 0 }, { name := "SINCE", type := (.object "com/example/sundew/sundew/check/LtlFormulas$Kind"), accessFlags := 16409, slot := 8, constantValue := 0 }, { name := "TRIGGERED", type := (.object "com/example/sundew/sundew/check/LtlFormulas$Kind"), accessFlags := 16409, slot := 9, constantValue := 0 }, { name := "arity", type := .int, accessFlags := 18, slot := 3, constantValue := 0 }, { name := "time", type := (.object "com/example/sundew/sundew/check/LtlFormulas$Time"), accessFlags := 18, slot := 4, constantValue := 0 }, { name := "$VALUES", type := (.array (.object "com/example/sundew/sundew/check/LtlFormulas$Kind")), accessFlags := 4122, slot := 10, constantValue := 0 }]
  methods := #[k6m0]
  instanceTypes := #[(.object "java/lang/String"), .int, .int, .int, (.object "com/example/sundew/sundew/check/LtlFormulas$Time")]
  staticTypes := #[(.object "com/example/sundew/sundew/check/LtlFormulas$Kind"), (.object "com/example/sundew/sundew/check/LtlFormulas$Kind"), (.object "com/example/sundew/sundew/check/LtlFormulas$Kind"), (.object "com/example/sundew/sundew/check/LtlFormulas$Kind"), (.object "com/example/sundew/sundew/check/LtlFormulas$Kind"), (.object "com/example/sundew/sundew/check/LtlFormulas$Kind"), (.object "com/example/sundew/sundew/check/LtlFormulas$Kind"), (.object "com/example/sundew/sundew/check/LtlFormulas$Kind"), (.object "com/example/sundew/sundew/check/LtlFormulas$Kind"), (.object "com/example/sundew/sundew/check/LtlFormulas$Kind"), (.array (.object "com/example/sundew/sundew/check/LtlFormulas$Kind"))]
  resolved := Array.replicate 112 none
  statics := some 0 }

def pool7 : Array CpInfo := pool [(1, u "java/lang/Cloneable"), (0, .class_ 1), (0, u "java/lang/Object"), (0, .class_ 3)] 3

/-- java/lang/Cloneable -/
def k7 : Class := { plain "java/lang/Cloneable" (some 0) with
  accessFlags := 1537
  interfaces := #[]
  cf := some (fileOf pool7 2 #[] #[] 1537 4 #[] #[])
  fields := #[]
  methods := #[]
  instanceTypes := #[]
  staticTypes := #[]
  resolved := Array.replicate 8 none
  statics := none }

/-- the primitive byte -/
def k8 : Class := { plain "byte" none with kind := .primitive 'B', accessFlags := 0x411 }
/-- [B -/
def k9 : Class := { plain "[B" (some 0) with kind := .array 8 .byte, interfaces := #[7, 4], accessFlags := 1041 }

/-- the primitive int -/
def k10 : Class := { plain "int" none with kind := .primitive 'I', accessFlags := 0x411 }
/-- [I -/
def k11 : Class := { plain "[I" (some 0) with kind := .array 10 .int, interfaces := #[7, 4], accessFlags := 1041 }

def heap : Heap := #[{ cls := 6, slots := #[.ref 1, .ref 6, .ref 8, .ref 5, .ref 7, .ref 2, .ref 10, .ref 4, .ref 9, .ref 3, .null], vm := .statics 6 },
  { cls := 6, slots := #[.null, .int 0, .int 0, .int 0, .null], vm := .none },
  { cls := 6, slots := #[.null, .int 5, .int 0, .int 0, .null], vm := .none },
  { cls := 6, slots := #[.null, .int 9, .int 0, .int 0, .null], vm := .none },
  { cls := 6, slots := #[.null, .int 7, .int 0, .int 0, .null], vm := .none },
  { cls := 6, slots := #[.null, .int 3, .int 0, .int 0, .null], vm := .none },
  { cls := 6, slots := #[.null, .int 1, .int 0, .int 0, .null], vm := .none },
  { cls := 6, slots := #[.null, .int 4, .int 0, .int 0, .null], vm := .none },
  { cls := 6, slots := #[.null, .int 2, .int 0, .int 0, .null], vm := .none },
  { cls := 6, slots := #[.null, .int 8, .int 0, .int 0, .null], vm := .none },
  { cls := 6, slots := #[.null, .int 6, .int 0, .int 0, .null], vm := .none }]
def classes : Array Class := #[k0, k1, k2, k3, k4, k5, k6, k7, k8, k9, k10, k11]
def interned : List (Array UInt16 × Addr) := []
def slotsUsed : Nat := 61
def theMethod : MethodId := ⟨1, 2⟩
def args0 : Array Value := #[.int 5]
def aboutOver (below : List Frame) : State where
  vm := { classes := classes, interned := interned.toArray }
  heap := heap
  slotsUsed := slotsUsed
  threads := #[{ frames := .invoking theMethod args0 :: below }]
def below0 : List Frame := [.native { method := ⟨0, 0⟩, args := #[] }]
def about1 : State := aboutOver below0
def p0 : Program := .bare "" "" ""
def e0 : Env := launch0.env 0 0 0
theorem w_frames : about1.frames = Frame.invoking theMethod args0 :: below0 := rfl
set_option maxRecDepth 65536 in
theorem w_args : argsFit about1.vm theMethod args0 = true := by decide +kernel
set_option maxRecDepth 65536 in
theorem w_heap : heapFits about1 = true := by decide +kernel
set_option maxRecDepth 65536 in
theorem w_runnable : about1.curStatus? = some .runnable := by decide +kernel
set_option maxRecDepth 65536 in
theorem w_alone : about1.alone = true := by decide +kernel
set_option maxRecDepth 65536 in
theorem w_named : about1.methodNamed? x = some theMethod := by decide +kernel
set_option maxRecDepth 65536 in
theorem w_hears : about1.hears theMethod below0 = true := by decide +kernel
set_option maxRecDepth 65536 in
theorem w_ripe : about1.ripe theMethod args0 below0 = true := by decide +kernel
theorem w_running : about1.status = .running := rfl
set_option maxRecDepth 65536 in
theorem w_room : about1.hasRoom e0.platform room_1 = true :=
  launch0.hasRoom_least _ room_1 (by decide +kernel) (by decide +kernel) (by decide +kernel) (by decide +kernel) (by decide +kernel) (by decide +kernel)
theorem allAtoms_all (ts : List Jvm.Cond) (a : Array Jvm.Value) (st : Jvm.State) : (allAtoms ts).before a st = ts.all (fun c => c.before a st) := by
  induction ts with
  | nil => rfl
  | cons c t ih =>
    show (Jvm.Cond.and c (allAtoms t)).before a st = _
    rw [Jvm.Cond.before_and, ih, List.all_cons]
def words1 : List Jvm.Cond := Jvm.Cond.code x code maxLocals ret :: tables_1
/-- a 'code' word, met by the world's own term for the bytes: nothing is compared byte by byte -/
theorem code_word {y : MethodName} {bytes : ByteArray} {mx : Nat} {rt : Option FieldType} {a : Array Value} {s : State} {m : MethodId} {meth : Method} {c : Code} (h1 : s.methodNamed? y = some m) (h2 : s.vm.method? m = some meth) (h3 : meth.code = some c) (h4 : c.code = bytes)
    (h5 : (c.maxLocals == mx && c.exceptionTable.isEmpty && decide (c.maxStack ≤ mostOperands) && decide (meth.sig.returnType = rt) && !meth.locks && decide (parseMethodDescriptor y.desc = some meth.sig)) = true) : (Jvm.Cond.code y bytes mx rt).before a s = true := by
  simp only [Bool.and_eq_true, beq_iff_eq, Bool.not_eq_true', decide_eq_true_eq] at h5
  obtain ⟨⟨⟨⟨⟨g1, g2⟩, g3⟩, g4⟩, g5⟩, g6⟩ := h5
  simp [Cond.before, Cond.holds, Cond.value, h1, h2, h3, h4, g1, g2, g3, g4, g5, g6]
def isCode : Jvm.Cond → Bool
  | .code _ _ _ _ => true
  | _ => false
theorem all_split {L : List Jvm.Cond} {P : Jvm.Cond → Bool} (h1 : L.all (fun c => isCode c || P c) = true) (h2 : ∀ c ∈ L.filter isCode, P c = true) : L.all P = true := by
  refine List.all_eq_true.mpr fun c hc => ?_
  have h := List.all_eq_true.mp h1 c hc
  rcases Bool.eq_false_or_eq_true (isCode c) with hi | hi
  · exact h2 c (List.mem_filter.mpr ⟨hc, hi⟩)
  · simpa [hi] using h
set_option maxRecDepth 65536 in
theorem w_c0 : (Jvm.Cond.code x code maxLocals ret).before args0 about1 = true := code_word (m := ⟨1, 2⟩) (meth := k1m2) (c := k1c2) (by decide +kernel) rfl rfl rfl (by decide +kernel)
set_option maxRecDepth 65536 in
theorem w_c1 : (Jvm.Cond.code ({ cls := "com/example/sundew/sundew/check/KindIsWeakPinLaw", name := "pick", desc := "(I)Lcom/example/sundew/sundew/check/LtlFormulas$Kind;" } : Jvm.MethodName) method_2_code (1 : Nat) (Option.some (Jvm.ClassFile.FieldType.object "com/example/sundew/sundew/check/LtlFormulas$Kind"))).before args0 about1 = true := code_word (m := ⟨1, 1⟩) (meth := k1m1) (c := k1c1) (by decide +kernel) rfl rfl rfl (by decide +kernel)
set_option maxRecDepth 65536 in
theorem w_c2 : (Jvm.Cond.code ({ cls := "com/example/sundew/sundew/check/LtlFormulas$Kind", name := "isWeak", desc := "()Z" } : Jvm.MethodName) prog_29_method_6_code (1 : Nat) (Option.some Jvm.ClassFile.FieldType.boolean)).before args0 about1 = true := code_word (m := ⟨6, 0⟩) (meth := k6m0) (c := k6c0) (by decide +kernel) rfl rfl rfl (by decide +kernel)
def codes1 : List Jvm.Cond := [Jvm.Cond.code x code maxLocals ret, Jvm.Cond.code ({ cls := "com/example/sundew/sundew/check/KindIsWeakPinLaw", name := "pick", desc := "(I)Lcom/example/sundew/sundew/check/LtlFormulas$Kind;" } : Jvm.MethodName) method_2_code (1 : Nat) (Option.some (Jvm.ClassFile.FieldType.object "com/example/sundew/sundew/check/LtlFormulas$Kind")), Jvm.Cond.code ({ cls := "com/example/sundew/sundew/check/LtlFormulas$Kind", name := "isWeak", desc := "()Z" } : Jvm.MethodName) prog_29_method_6_code (1 : Nat) (Option.some Jvm.ClassFile.FieldType.boolean)]
set_option maxRecDepth 65536 in
theorem codes_eq : words1.filter isCode = codes1 := rfl
theorem w_codes : ∀ c ∈ words1.filter isCode, c.before args0 about1 = true := by
  rw [codes_eq]
  intro c hc
  simp only [codes1, List.mem_cons, List.not_mem_nil, or_false] at hc
  rcases hc with rfl | rfl | rfl
  · exact w_c0
  · exact w_c1
  · exact w_c2
set_option maxRecDepth 65536 in
theorem w_t1 : (words1.take 24).all (fun c => isCode c || c.before args0 about1) = true := by decide +kernel
set_option maxRecDepth 65536 in
theorem w_t2 : (words1.drop 24).all (fun c => isCode c || c.before args0 about1) = true := by decide +kernel
theorem w_tables : (allAtoms (Jvm.Cond.code x code maxLocals ret :: tables_1)).before args0 about1 = true := by
  rw [allAtoms_all]
  show words1.all (fun c => c.before args0 about1) = true
  refine all_split ?_ w_codes
  rw [← List.take_append_drop 24 words1, List.all_append, w_t1, w_t2]
  rfl
set_option maxRecDepth 65536 in
theorem w_case : (Jvm.Cond.and given_1 narrow_1).before args0 about1 = true := by decide +kernel
theorem w_applies : (headSpec (Jvm.Cond.code x code maxLocals ret :: tables_1) room_1).applies x e0.platform about1 = true :=
  (Spec.applies_iff w_frames).mpr ⟨w_running, w_runnable, w_alone, w_named, w_hears, w_ripe, w_room, w_tables⟩
theorem atStart : AtStart classFile x code maxLocals ret World_1 tables_1 room_1 Calls_1 rest_1 Pre_1 launch0 p0 e0 about1 theMethod args0 below0 :=
  ⟨lists_1, trivial, launch0.admits_env _ _ _, launch0.least_env, fairChoices_fair.cas, fairChoices_fair.clock, w_frames, w_args, w_heap, w_applies, trivial, trivial, w_case⟩
end start1
theorem witness_1 : WitnessClaimed_1 := ⟨start1.p0, start1.e0, start1.about1, start1.theMethod, start1.args0, start1.below0, start1.atStart⟩
end Jvm.Pilot.@@N@@
