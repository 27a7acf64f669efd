import JvmDerived
import JvmDerived.Pilot.@@N@@Statement
import JvmDerived.Pilot.@@N@@Code
set_option linter.unusedVariables false
set_option linter.unusedSimpArgs false
namespace Jvm.Pilot.@@N@@
open Jvm Jvm.ClassFile Sem Op Lib Jvm.Free Jvm.Stand Jvm.LawKit Jvm.RoadKit Bundle Jvm.Pilot.@@N@@.Jvm.D
/-! own_Done: from frame F on top of T the run comes to its end, and R holds there -/
def own_Done (tb : Tables) (e : Env) (below : List Frame) (R : Outcome → State → Prop) (T : State) (F : JFrame) : Prop :=
  ∃ s₂ o, Steps tb e below (T.setTop F) s₂ ∧ s₂.status = .running ∧ Ended s₂ below o ∧ R o s₂
def own_R (Qq : Option Value → Heap → List Loc → Prop) (s : State) (C S : Nat) : Outcome → State → Prop :=
  fun o U => ∃ v L, o = .returned v ∧ Qq v U.heap L ∧ FrameEnd s o U L C S
def own_RW (Qq : Option Value → Heap → List Loc → Prop) (s : State) (C S : Nat) : Outcome → State → Prop :=
  fun o U => ∃ v L, o = .returned v ∧ Qq v U.heap L ∧ ReturnedEndW s o U L C S
theorem own_st {tb : Tables} {e : Env} {below : List Frame} {R : Outcome → State → Prop} {T T' : State} {F F' : JFrame} (k : ∀ t, Steps tb e below (T'.setTop F') t → Steps tb e below (T.setTop F) t) (d : own_Done tb e below R T' F') : own_Done tb e below R T F := by
  obtain ⟨a, o, h1, h2⟩ := d
  exact ⟨a, o, k a h1, h2⟩
theorem own_tr {tb : Tables} {e : Env} {below : List Frame} {R : Outcome → State → Prop} {T T' : State} {F F' : JFrame} (k : Steps tb e below (T.setTop F) (T'.setTop F')) (d : own_Done tb e below R T' F') : own_Done tb e below R T F := by
  obtain ⟨a, o, h1, h2⟩ := d
  exact ⟨a, o, k.trans h1, h2⟩
section Own
variable {p : Program} {l : Launch} {e : Env} {Rm : Room} {s : State} {m : MethodId} {args : Array Value} {below : List Frame} {meth : Method} {c : Code} {T : State} {locs : List Loc} {cells slots : Nat}
theorem own_ret (X : Stand p l e Rm s m args below meth c T locs cells slots) (hx : p.tables.exec = Jvm.exec) {pc : Nat} {Ls : Array Slot} {w : Value} {t : FieldType} {i : Instr} {rest : List Value} (hret : meth.sig.returnType = some t) (hn : narrow t w = w)
    (hi : (i = .ireturn ∧ (t = .int ∨ t = .boolean ∨ t = .byte ∨ t = .char ∨ t = .short) ∧ ∃ z, w = .int z) ∨ (i = .lreturn ∧ t = .long ∧ ∃ z, w = .long z) ∨ (i = .dreturn ∧ t = .double ∧ ∃ z, w = .double z) ∨ (i = .freturn ∧ t = .float ∧ ∃ z, w = .float z) ∨ (i = .areturn ∧ t.isReference = true ∧ w.isRef = true))
    (hd : decode c.code pc = .ok (i, 1)) (hlk : meth.locks = false) {Qq : Option Value → Heap → List Loc → Prop} {C S : Nat} (hQ : Qq (some w) T.heap locs) (hc : cells ≤ C) (hs : slots ≤ S) :
    own_Done p.tables e below (own_R Qq s C S) T (mkF m pc Ls (w :: rest)) := by
  obtain ⟨fs, hr, hrun, hended, hW, hsame⟩ := X.leave (v := some w) (fun h => by rw [hret] at h; cases h) hlk
  exact ⟨_, _, retOut X hx hret hn hi hd hr, hrun, hended, _, _, rfl, hQ, ⟨_, rfl⟩, hW, hsame.mono hc hs⟩
theorem own_retI (X : Stand p l e Rm s m args below meth c T locs cells slots) (hx : p.tables.exec = Jvm.exec) {pc : Nat} {Ls : Array Slot} {z : Int32} {rest : List Value} (hret : meth.sig.returnType = some .int) (hd : decode c.code pc = .ok (.ireturn, 1)) (hlk : meth.locks = false)
    {Qq : Option Value → Heap → List Loc → Prop} {C S : Nat} (hQ : Qq (some (.int z)) T.heap locs) (hc : cells ≤ C) (hs : slots ≤ S) : own_Done p.tables e below (own_R Qq s C S) T (mkF m pc Ls (.int z :: rest)) :=
  own_ret X hx hret rfl (Or.inl ⟨rfl, Or.inl rfl, _, rfl⟩) hd hlk hQ hc hs
theorem own_retN (X : Stand p l e Rm s m args below meth c T locs cells slots) (hx : p.tables.exec = Jvm.exec) {pc : Nat} {Ls : Array Slot} {z : Int32} {t : FieldType} {rest : List Value} (hret : meth.sig.returnType = some t) (ht : t = .boolean ∨ t = .byte ∨ t = .char ∨ t = .short) (hn : narrow t (.int z) = .int z) (hd : decode c.code pc = .ok (.ireturn, 1)) (hlk : meth.locks = false)
    {Qq : Option Value → Heap → List Loc → Prop} {C S : Nat} (hQ : Qq (some (.int z)) T.heap locs) (hc : cells ≤ C) (hs : slots ≤ S) : own_Done p.tables e below (own_R Qq s C S) T (mkF m pc Ls (.int z :: rest)) :=
  own_ret X hx hret hn (Or.inl ⟨rfl, Or.inr ht, _, rfl⟩) hd hlk hQ hc hs
theorem own_retJ (X : Stand p l e Rm s m args below meth c T locs cells slots) (hx : p.tables.exec = Jvm.exec) {pc : Nat} {Ls : Array Slot} {z : Int64} {rest : List Value} (hret : meth.sig.returnType = some .long) (hd : decode c.code pc = .ok (.lreturn, 1)) (hlk : meth.locks = false)
    {Qq : Option Value → Heap → List Loc → Prop} {C S : Nat} (hQ : Qq (some (.long z)) T.heap locs) (hc : cells ≤ C) (hs : slots ≤ S) : own_Done p.tables e below (own_R Qq s C S) T (mkF m pc Ls (.long z :: rest)) :=
  own_ret X hx hret rfl (Or.inr (Or.inl ⟨rfl, rfl, _, rfl⟩)) hd hlk hQ hc hs
theorem own_narrow {t : FieldType} {v : Value} (h : v.isRef = true) : narrow t v = v := by
  rcases ref_cases h with rfl | ⟨a, rfl⟩ <;> cases t <;> rfl
theorem own_retA (X : Stand p l e Rm s m args below meth c T locs cells slots) (hx : p.tables.exec = Jvm.exec) {pc : Nat} {Ls : Array Slot} {w : Value} {t : FieldType} {rest : List Value} (hret : meth.sig.returnType = some t) (ht : t.isReference = true) (hw : w.isRef = true) (hd : decode c.code pc = .ok (.areturn, 1)) (hlk : meth.locks = false)
    {Qq : Option Value → Heap → List Loc → Prop} {C S : Nat} (hQ : Qq (some w) T.heap locs) (hc : cells ≤ C) (hs : slots ≤ S) : own_Done p.tables e below (own_R Qq s C S) T (mkF m pc Ls (w :: rest)) :=
  own_ret X hx hret (own_narrow hw) (Or.inr (Or.inr (Or.inr (Or.inr ⟨rfl, ht, hw⟩)))) hd hlk hQ hc hs
theorem own_retV (X : Stand p l e Rm s m args below meth c T locs cells slots) (hx : p.tables.exec = Jvm.exec) {pc : Nat} {Ls : Array Slot} (hret : meth.sig.returnType = none) (hd : decode c.code pc = .ok (.return_, 1)) (hlk : meth.locks = false)
    {Qq : Option Value → Heap → List Loc → Prop} {C S : Nat} (hQ : Qq none T.heap locs) (hc : cells ≤ C) (hs : slots ≤ S) : own_Done p.tables e below (own_R Qq s C S) T (mkF m pc Ls []) := by
  obtain ⟨fs, hr, hrun, hended, hW, hsame⟩ := X.leave (v := none) (fun _ => rfl) hlk
  exact ⟨_, _, X.returnOut hx hret hd hr, hrun, hended, _, _, rfl, hQ, ⟨_, rfl⟩, hW, hsame.mono hc hs⟩
theorem own_retW {vm₁ : Vm} (X : Stand p l e Rm (s.setVm vm₁) m args below meth c T locs cells slots) (hx : p.tables.exec = Jvm.exec) {pc : Nat} {Ls : Array Slot} {w : Value} {t : FieldType} {i : Instr} {rest : List Value} (hret : meth.sig.returnType = some t) (hn : narrow t w = w)
    (hi : (i = .ireturn ∧ (t = .int ∨ t = .boolean ∨ t = .byte ∨ t = .char ∨ t = .short) ∧ ∃ z, w = .int z) ∨ (i = .lreturn ∧ t = .long ∧ ∃ z, w = .long z) ∨ (i = .dreturn ∧ t = .double ∧ ∃ z, w = .double z) ∨ (i = .freturn ∧ t = .float ∧ ∃ z, w = .float z) ∨ (i = .areturn ∧ t.isReference = true ∧ w.isRef = true))
    {ks : Nat} (hS : s.Since vm₁ ks) (hk : ks ≤ T.heap.size) (hd : decode c.code pc = .ok (i, 1)) (hlk : meth.locks = false) {Qq : Option Value → Heap → List Loc → Prop} {C S : Nat} (hQ : Qq (some w) T.heap locs) (hc : cells ≤ C) (hs : slots ≤ S) :
    own_Done p.tables e below (own_RW Qq s C S) T (mkF m pc Ls (w :: rest)) := by
  obtain ⟨fs, hr, hrun, hended, hW⟩ := X.leaveW hS hk (v := some w) (fun h => by rw [hret] at h; cases h) hlk
  exact ⟨_, _, retOut X hx hret hn hi hd hr, hrun, hended, _, _, rfl, hQ, hW.1, hW.2.1, hW.2.2.1, hW.2.2.2.mono hc hs⟩
theorem own_retIW {vm₁ : Vm} (X : Stand p l e Rm (s.setVm vm₁) m args below meth c T locs cells slots) (hx : p.tables.exec = Jvm.exec) {pc : Nat} {Ls : Array Slot} {z : Int32} {rest : List Value} (hret : meth.sig.returnType = some .int) {ks : Nat} (hS : s.Since vm₁ ks) (hk : ks ≤ T.heap.size) (hd : decode c.code pc = .ok (.ireturn, 1)) (hlk : meth.locks = false)
    {Qq : Option Value → Heap → List Loc → Prop} {C S : Nat} (hQ : Qq (some (.int z)) T.heap locs) (hc : cells ≤ C) (hs : slots ≤ S) : own_Done p.tables e below (own_RW Qq s C S) T (mkF m pc Ls (.int z :: rest)) :=
  own_retW X hx hret rfl (Or.inl ⟨rfl, Or.inl rfl, _, rfl⟩) hS hk hd hlk hQ hc hs
theorem own_retNW {vm₁ : Vm} (X : Stand p l e Rm (s.setVm vm₁) m args below meth c T locs cells slots) (hx : p.tables.exec = Jvm.exec) {pc : Nat} {Ls : Array Slot} {z : Int32} {t : FieldType} {rest : List Value} (hret : meth.sig.returnType = some t) (ht : t = .boolean ∨ t = .byte ∨ t = .char ∨ t = .short) (hn : narrow t (.int z) = .int z) {ks : Nat} (hS : s.Since vm₁ ks) (hk : ks ≤ T.heap.size) (hd : decode c.code pc = .ok (.ireturn, 1)) (hlk : meth.locks = false)
    {Qq : Option Value → Heap → List Loc → Prop} {C S : Nat} (hQ : Qq (some (.int z)) T.heap locs) (hc : cells ≤ C) (hs : slots ≤ S) : own_Done p.tables e below (own_RW Qq s C S) T (mkF m pc Ls (.int z :: rest)) :=
  own_retW X hx hret hn (Or.inl ⟨rfl, Or.inr ht, _, rfl⟩) hS hk hd hlk hQ hc hs
theorem own_retJW {vm₁ : Vm} (X : Stand p l e Rm (s.setVm vm₁) m args below meth c T locs cells slots) (hx : p.tables.exec = Jvm.exec) {pc : Nat} {Ls : Array Slot} {z : Int64} {rest : List Value} (hret : meth.sig.returnType = some .long) {ks : Nat} (hS : s.Since vm₁ ks) (hk : ks ≤ T.heap.size) (hd : decode c.code pc = .ok (.lreturn, 1)) (hlk : meth.locks = false)
    {Qq : Option Value → Heap → List Loc → Prop} {C S : Nat} (hQ : Qq (some (.long z)) T.heap locs) (hc : cells ≤ C) (hs : slots ≤ S) : own_Done p.tables e below (own_RW Qq s C S) T (mkF m pc Ls (.long z :: rest)) :=
  own_retW X hx hret rfl (Or.inr (Or.inl ⟨rfl, rfl, _, rfl⟩)) hS hk hd hlk hQ hc hs
theorem own_mono (X : Stand p l e Rm s m args below meth c T locs cells slots) {C S : Nat} (hc : cells ≤ C) (hs : slots ≤ S) : Stand p l e Rm s m args below meth c T locs C S :=
  { X with same := X.same.mono hc hs }
end Own
theorem own_cat1 {v : Value} (h : v.isRef = true) : v.category = 1 := by rcases ref_cases h with rfl | ⟨a, rfl⟩ <;> rfl
theorem own_fits {t : FieldType} {v : Value} (ht : t.isReference = true) (h : v.isRef = true) : fits t v = true := by rcases ref_cases h with rfl | ⟨a, rfl⟩ <;> cases t <;> first | rfl | cases ht
theorem own_nb {z : Int32} (h : z = 0 ∨ z = 1) : narrow .boolean (.int z) = .int z := by rcases h with rfl | rfl <;> rfl
theorem own_fb {z : Int32} (h : z = 0 ∨ z = 1) : fits .boolean (.int z) = true := by rcases h with rfl | rfl <;> rfl
theorem own_ext_refl (h : Heap) : Ext h h := ⟨Nat.le_refl _, fun _ _ q => q⟩
theorem own_ext_trans {h h' h2 : Heap} (A : Ext h h') (B : Ext h' h2) : Ext h h2 := ⟨Nat.le_trans A.1 B.1, fun a c q => B.2 a c (A.2 a c q)⟩
theorem own_O_wr {Z : State} {h h' : Heap} {a : Addr} {sl : Nat} {v : Value} (A : Ext Z.heap h) (B : Wr h h' a sl v) (q : Z.heap.size ≤ a) : Ext Z.heap h' := (Old.wr (⟨rfl, A⟩ : Old Z Z.heap.size h) B q).2
theorem own_O_keep {Z : State} {h h' : Heap} {ws : List Addr} (A : Ext Z.heap h) (B : Keep h h' ws) (q : ∀ a ∈ ws, Z.heap.size ≤ a) : Ext Z.heap h' := (Old.keep (⟨rfl, A⟩ : Old Z Z.heap.size h) B q).2
theorem own_eq_int {args : Array Value} {s : State} {t : Term} {k : Int32} (h : (Jvm.Cond.eq t (Term.int k)).value args s none s [] = some true) : t.eval args s none [] s = some (.int k) := by
  obtain ⟨u, v, h1, h2, h3, h4⟩ := cmp_v (Or.inl h)
  have h5 : v = .int k := (Option.some.inj h2).symm
  subst h5
  obtain ⟨z, rfl⟩ := h4
  rw [h1]
  simp only [Jvm.Cond.value, h1, h2, Option.some.injEq, decide_eq_true_eq] at h
  rw [h]
theorem own_fld_int {args : Array Value} {s : State} {t : Term} {C n d : String} {a : Addr} {k : Int32} (ht : t.eval args s none [] s = some (.ref a)) (h : (Jvm.Cond.eq (Term.field t C n d) (Term.int k)).value args s none s [] = some true) : s.fieldOf? a C n d = some (.int k) :=
  (fld_at ht).symm.trans (own_eq_int h)
theorem own_eq_ref {args : Array Value} {s : State} {t u : Term} {a : Addr} (h : (Jvm.Cond.eq t u).value args s none s [] = some true) (hu : u.eval args s none [] s = some (.ref a)) : t.eval args s none [] s = some (.ref a) := by
  obtain ⟨x1, y1, h1, h2, h3, h4⟩ := cmp_v (Or.inl h)
  obtain rfl : y1 = .ref a := Option.some.inj (h2.symm.trans hu)
  have hr : x1.isRef = true := by cases x1 <;> first | rfl | (simp [Kin] at h3; done) | exact h3.1
  have e := gotT (eq_R h1 h2 hr rfl) h
  rw [h1, e]
theorem own_len {args : Array Value} {s : State} {t : Term} {a : Addr} {cl : Cell} {n : Int32} (h : (Term.length t).eval args s none [] s = some (.int n)) (ht : t.eval args s none [] s = some (.ref a)) (hc : s.heap[a]? = some cl) : cl.slots.size < 2 ^ 31 ∧ cl.slots.size.toInt32 = n := by
  obtain ⟨a', cell, e1, e2, e3⟩ := Term.length_spec h
  cases ht.symm.trans e1
  cases hc.symm.trans (State.arrayAt?_spec e2).1
  by_cases q : cl.slots.size < 2 ^ 31
  · exact ⟨q, (Value.int.inj e3).symm⟩
  · simp [Term.eval, ht, e2, q] at h
theorem own_initFor {args : Array Value} {s : State} {C n d : String} (h1 : (Jvm.Cond.initializedFor C n d).before args s = true) (h2 : (Jvm.Cond.laysStatic C n d).before args s = true) : (Jvm.Cond.initialized C).before args s = true := by
  obtain ⟨c, k, i, f, a, cell, q1, q2, -⟩ := Cond.laysStatic_spec h2
  have q3 := Cond.initializedFor_spec q2 h1
  have q4 := State.fieldFound?_class q2
  simp [Cond.before, Cond.holds, Cond.value, q1, q4, q3]
theorem own_ns_root {Z : State} {a0 : Array Value} {Ob K : String} {n : Nat} (w : (Jvm.Cond.noSuperclass Ob).before a0 Z = true) (wk : (Jvm.Cond.instantiable K n).before a0 Z = true) (hn : Ob ≠ K) : NS Z Ob K := by
  obtain ⟨c, k, h1, h2, h3, -, -⟩ := Cond.noSuperclass_spec w
  obtain ⟨t, k2, g1, -⟩ := Cond.instantiable_spec wk
  have ne := ids_ne h1 g1 hn
  refine ⟨c, t, h1, g1, fun fuel => ?_⟩
  cases fuel with
  | zero => rfl
  | succ f => simp [Vm.isSubclassAux, ne, h2, h3]
theorem own_ns_no {Z : State} {a0 : Array Value} {C Sp K : String} {n : Nat} (w : (Jvm.Cond.superclass C Sp).before a0 Z = true) (wk : (Jvm.Cond.instantiable K n).before a0 Z = true) (ns : NS Z C K) (hn : C ≠ K) : ∃ c t, Z.vm.findClass C = some c ∧ Z.vm.findClass K = some t ∧ Z.vm.assignable c t = false := by
  obtain ⟨c, t, h0, g0, n3⟩ := ns
  obtain ⟨p, k, kp, h1, h2, h3, h4, h5, -, h7⟩ := Cond.superclass_spec h0 w
  obtain ⟨t', k', g1, g2, g3, g4, -⟩ := Cond.instantiable_spec wk
  cases g0.symm.trans g1
  have g5 : k'.isInterface = false := by
    simp only [Bool.or_eq_false_iff] at g4
    exact g4.1
  have ne := ids_ne h0 g0 hn
  refine ⟨c, t, h0, g0, ?_⟩
  show Z.vm.assignableAux (255 + 1) c t = false
  simp [Vm.assignableAux, ne, h2, g2, h5, g3, g5, Vm.isSubclass, n3]
theorem own_ext_keep {h h' : Heap} (K : Keep h h' []) : Ext h h' := ⟨K.1, fun a c q => K.2.1 a c q (fun z => nomatch z)⟩
theorem own_sub_at {args : Array Value} {first s : State} {o : Option Outcome} {idx : List Nat} {t u : Term} {v w : Int32} (ha : t.eval args first o idx s = some (.int v)) (hb : u.eval args first o idx s = some (.int w)) : (Term.sub t u).eval args first o idx s = some (.int (v - w)) := by simp [Term.eval, ha, hb]
def own_Bx (Z : State) (h : Heap) (w : Value) (b q : Int32) : Prop := (w = .null ∧ b = 1) ∨ (b = 0 ∧ ∃ r : Addr, w = .ref r ∧ Exa Z h r "java/lang/Integer" ∧ Fld Z h r "java/lang/Integer" "value" "I" (.int q))
theorem own_Bx.ext {Z : State} {h h' : Heap} {w : Value} {b q : Int32} (B : own_Bx Z h w b q) (E : Ext h h') : own_Bx Z h' w b q := by
  rcases B with B | ⟨e, r, rfl, X, F⟩
  · exact Or.inl B
  · exact Or.inr ⟨e, r, rfl, X.ext E, F.ext E⟩
theorem own_Bx.keep {Z : State} {h h' : Heap} {w : Value} {b q : Int32} {a : Addr} {C : String} (B : own_Bx Z h w b q) (K : Keep h h' [a]) (X' : Exa Z h a C) (hn : "java/lang/Integer" ≠ C) : own_Bx Z h' w b q := by
  rcases B with B | ⟨e, r, rfl, X, F⟩
  · exact Or.inl B
  · exact Or.inr ⟨e, r, rfl, X.keep K, F.keep K (ninS (ne_exa X X' hn) nin0)⟩
theorem own_Bx.isRef {Z : State} {h : Heap} {w : Value} {b q : Int32} (B : own_Bx Z h w b q) : w.isRef = true := by
  rcases B with ⟨rfl, -⟩ | ⟨-, r, rfl, -, -⟩ <;> rfl
def own_eqv (b1 x1 b2 x2 : Int32) : Int32 := if b1 = 0 then (if b2 = 0 then (if x1 = x2 then 1 else 0) else 0) else (if b2 = 0 then 0 else 1)
theorem own_eqv_self (b z : Int32) : own_eqv b z b z = 1 := by
  unfold own_eqv
  by_cases h : b = 0 <;> simp [h]
theorem own_fld_uniq {Z : State} {h : Heap} {a : Addr} {C n d : String} {v w : Value} (F : Fld Z h a C n d v) (G : Fld Z h a C n d w) : v = w := by
  by_cases q : v = w
  · exact q
  · exact absurd rfl (F.ne G q)
theorem own_selects_private {args : Array Value} {s : State} {y : MethodName} {n : Nat} (hinst : (Jvm.Cond.instanceMethod y).before args s = true) (hpriv : (Jvm.Cond.privateMethod y).before args s = true) (hi : (Jvm.Cond.instantiable y.cls n).before args s = true) (hy : y.cls ≠ "java/lang/invoke/MethodHandle" ∧ y.cls ≠ "java/lang/invoke/VarHandle") : (Jvm.Cond.selects y.cls y y).before args s = true := by
  obtain ⟨mk, methM, hnamed, hmethM, hstM, habM⟩ := Cond.instanceMethod_spec hinst
  have hc := findClass_of_methodNamed hnamed
  obtain ⟨c, k, g1, g2, g3, g4, -⟩ := Cond.instantiable_spec hi
  cases hc.symm.trans g1
  have hf := State.methodFound?_of_named hnamed hy
  have hs : selectMethod {} s.vm mk.cls mk = .method mk := selectMethod_private hmethM (Cond.privateMethod_at hpriv mk methM hnamed hmethM)
  have g5 : k.isInterface = false := by
    simp only [Bool.or_eq_false_iff] at g4
    exact g4.1
  simp [Cond.before, Cond.holds, Cond.value, hc, hf, hnamed, hs, g2, g5]
def Ctx (Z : State) (a0 : Array Value) (w_FRONT : Addr) (w_PART : Addr) (w_CHAPTER : Addr) (w_ARTICLE : Addr) (w_DIVISION : Addr) (w_SECTION : Addr) (w_RESERVED : Addr) (w_BACK : Addr) : Prop := (∀ d ∈ tables_1, d.before a0 Z = true) ∧ Sta Z Z.heap "com/example/catchline/catchline/Kind" "FRONT" "Lcom/example/catchline/catchline/Kind;" (.ref w_FRONT) ∧ Exa Z Z.heap w_FRONT "com/example/catchline/catchline/Kind" ∧ Sta Z Z.heap "com/example/catchline/catchline/Kind" "PART" "Lcom/example/catchline/catchline/Kind;" (.ref w_PART) ∧ Exa Z Z.heap w_PART "com/example/catchline/catchline/Kind" ∧ Sta Z Z.heap "com/example/catchline/catchline/Kind" "CHAPTER" "Lcom/example/catchline/catchline/Kind;" (.ref w_CHAPTER) ∧ Exa Z Z.heap w_CHAPTER "com/example/catchline/catchline/Kind" ∧ Sta Z Z.heap "com/example/catchline/catchline/Kind" "ARTICLE" "Lcom/example/catchline/catchline/Kind;" (.ref w_ARTICLE) ∧ Exa Z Z.heap w_ARTICLE "com/example/catchline/catchline/Kind" ∧ Sta Z Z.heap "com/example/catchline/catchline/Kind" "DIVISION" "Lcom/example/catchline/catchline/Kind;" (.ref w_DIVISION) ∧ Exa Z Z.heap w_DIVISION "com/example/catchline/catchline/Kind" ∧ Sta Z Z.heap "com/example/catchline/catchline/Kind" "SECTION" "Lcom/example/catchline/catchline/Kind;" (.ref w_SECTION) ∧ Exa Z Z.heap w_SECTION "com/example/catchline/catchline/Kind" ∧ Sta Z Z.heap "com/example/catchline/catchline/Kind" "RESERVED" "Lcom/example/catchline/catchline/Kind;" (.ref w_RESERVED) ∧ Exa Z Z.heap w_RESERVED "com/example/catchline/catchline/Kind" ∧ Sta Z Z.heap "com/example/catchline/catchline/Kind" "BACK" "Lcom/example/catchline/catchline/Kind;" (.ref w_BACK) ∧ Exa Z Z.heap w_BACK "com/example/catchline/catchline/Kind" ∧ Fld Z Z.heap w_FRONT "java/lang/Enum" "ordinal" "I" (.int (0 : Int32)) ∧ Fld Z Z.heap w_SECTION "java/lang/Enum" "ordinal" "I" (.int (5 : Int32)) ∧ Fld Z Z.heap w_RESERVED "java/lang/Enum" "ordinal" "I" (.int (6 : Int32)) ∧ Fld Z Z.heap w_ARTICLE "java/lang/Enum" "ordinal" "I" (.int (3 : Int32)) ∧ Fld Z Z.heap w_BACK "java/lang/Enum" "ordinal" "I" (.int (7 : Int32)) ∧ Fld Z Z.heap w_CHAPTER "java/lang/Enum" "ordinal" "I" (.int (2 : Int32)) ∧ Fld Z Z.heap w_PART "java/lang/Enum" "ordinal" "I" (.int (1 : Int32)) ∧ Fld Z Z.heap w_DIVISION "java/lang/Enum" "ordinal" "I" (.int (4 : Int32)) ∧ True
def Q0 (Z : State) (v : Option Value) (h : Heap) (L : List Loc) : Prop := v = some (.int (1 : Int32)) ∧ Fr Z.heap.size L
def Q1 (Z : State) (r : Value) (h0 : Heap) (v : Option Value) (h : Heap) (L : List Loc) : Prop := v = some r ∧ Fr Z.heap.size L ∧ h = h0
theorem own_last8 (k : Int32) (h0 : 0 ≤ k.toInt) (h1 : k.toInt < 8) (n0 : ¬ k = 0) (n1 : ¬ k = 1) (n2 : ¬ k = 2) (n3 : ¬ k = 3) (n4 : ¬ k = 4) (n5 : ¬ k = 5) (n6 : ¬ k = 6) : k = 7 := by
  have q : ∀ j : Int32, ¬ k = j → k.toInt ≠ j.toInt := fun j h e => h (Int32.toInt_inj.mp e)
  have m0 : k.toInt ≠ 0 := q 0 n0
  have m1 : k.toInt ≠ 1 := q 1 n1
  have m2 : k.toInt ≠ 2 := q 2 n2
  have m3 : k.toInt ≠ 3 := q 3 n3
  have m4 : k.toInt ≠ 4 := q 4 n4
  have m5 : k.toInt ≠ 5 := q 5 n5
  have m6 : k.toInt ≠ 6 := q 6 n6
  have e : k.toInt = (7 : Int32).toInt := by show k.toInt = 7; omega
  exact Int32.toInt_inj.mp e
theorem own_mask3 (z : Int32) : 0 ≤ (z &&& (7 : Int32)).toInt ∧ (z &&& (7 : Int32)).toInt < 8 := by
  have a := c_mask z 7 3 (by decide) (by decide)
  omega
theorem d1_0 : decode prog_32_method_5_code 0 = .ok (.aload_n 0, 1) := by decide +kernel
theorem d1_1 : decode prog_32_method_5_code 1 = .ok (.getstatic 19, 3) := by decide +kernel
theorem d1_4 : decode prog_32_method_5_code 4 = .ok (.if_acmp .eq 10, 3) := by decide +kernel
theorem d1_7 : decode prog_32_method_5_code 7 = .ok (.aload_n 0, 1) := by decide +kernel
theorem d1_8 : decode prog_32_method_5_code 8 = .ok (.getstatic 22, 3) := by decide +kernel
theorem d1_11 : decode prog_32_method_5_code 11 = .ok (.if_acmp .ne 7, 3) := by decide +kernel
theorem d1_14 : decode prog_32_method_5_code 14 = .ok (.iconst 1, 1) := by decide +kernel
theorem d1_15 : decode prog_32_method_5_code 15 = .ok (.goto 4, 3) := by decide +kernel
theorem d1_18 : decode prog_32_method_5_code 18 = .ok (.iconst 0, 1) := by decide +kernel
theorem d1_19 : decode prog_32_method_5_code 19 = .ok (.ireturn, 1) := by decide +kernel
theorem pn_0 : plainName "com/example/catchline/catchline/Kind" = true := by first | (simp [plainName, overriddenIn]; done) | decide +kernel
set_option maxRecDepth 65536 in
set_option maxHeartbeats 40000000 in
theorem rm1 (l : Launch) (Z : State) (a0 : Array Value) {w_FRONT : Addr} {w_PART : Addr} {w_CHAPTER : Addr} {w_ARTICLE : Addr} {w_DIVISION : Addr} {w_SECTION : Addr} {w_RESERVED : Addr} {w_BACK : Addr} (CX : Ctx Z a0 w_FRONT w_PART w_CHAPTER w_ARTICLE w_DIVISION w_SECTION w_RESERVED w_BACK) (ws : List Jvm.Cond) (a1 : Addr) (r : Int32) (h0 : Heap) (O : Ext Z.heap h0) (hr : r = if a1 = w_SECTION then 1 else if a1 = w_RESERVED then 1 else 0) :
    MetFree l (⟨"com/example/catchline/catchline/Kind", "namesSections", "()Z"⟩ : MethodName) (head1 (Jvm.Cond.code (⟨"com/example/catchline/catchline/Kind", "namesSections", "()Z"⟩ : MethodName) prog_32_method_5_code 1 (some .boolean) :: ws) ({ frames := 0, cells := 0, slots := 0, locals := 0 } : Room)) (fun a U => a = #[(.ref a1)] ∧ Z.Warmed39 U.vm ∧ U.heap = h0) (fun _ _ _ _ _ => True) (fun _ U o U' => ∃ v L, o = .returned v ∧ Q1 Z (.int r) h0 v U'.heap L ∧ FrameEnd U o U' L ({ frames := 0, cells := 0, slots := 0, locals := 0 } : Room).cells ({ frames := 0, cells := 0, slots := 0, locals := 0 } : Room).slots) := by
  refine MetFree.of_bodySF (plainFor_of_name pn_0) hisR ?_
  intro p e s m args below meth c s₁ Bd hml0 hP hK
  obtain ⟨rfl, hZ, hh⟩ := hP
  have CX0 := CX
  obtain ⟨hw, S_FRONT, E_FRONT, S_PART, E_PART, S_CHAPTER, E_CHAPTER, S_ARTICLE, E_ARTICLE, S_DIVISION, E_DIVISION, S_SECTION, E_SECTION, S_RESERVED, E_RESERVED, S_BACK, E_BACK, O_FRONT, O_SECTION, O_RESERVED, O_ARTICLE, O_BACK, O_CHAPTER, O_PART, O_DIVISION, -⟩ := CX0
  have hx := Bd.exec
  have hby := Bd.bytes
  have hml : c.maxLocals = 1 := hml0
  have hown : s.vm.findClass "com/example/catchline/catchline/Kind" = some m.cls := findClass_of_methodNamed Bd.named
  have hnm := (name_of_methodNamed Bd.named Bd.method).1
  have hlk : meth.locks = false := BodyLoose.notSynchronized Bd
  have X0 : Stand p l e ({ frames := 0, cells := 0, slots := 0, locals := 0 } : Room) s m #[(.ref a1)] below meth c s₁ [] 0 0 := Stand.of_body Bd
  have e0 : s₁.heap = h0 := by rw [← hh, Bd.state]; rfl
  have N := Fr.nil Z.heap.size
  show own_Done p.tables e below (own_R (Q1 Z (.int r) h0) s 0 0) s₁ (entryFrame m #[(.ref a1)] 1)
  refine own_st (T' := s₁) (F' := (mkF m 0 #[.val (.ref a1)] [])) (fun t k => castTop (by first | rfl | (simp [entryFrame, mkF, argsToLocals, Value.category]; done)) k) ?_
  refine own_st (T' := s₁) (F' := (mkF m 1 #[.val (.ref a1)] [(.ref a1)])) (fun t k => XS.aloadN X0.here hx rfl (hb hby d1_0) rfl rfl k) ?_
  obtain ⟨T1, X1, e1, st1⟩ := getS2 X0 hx hZ hown (host := "") (Or.inl (hw _ (List.mem_of_getElem? (i := 26) rfl))) Via.refl e0 (S_SECTION.ext O) (g := (mkF m 1 #[.val (.ref a1)] [(.ref a1)])) rfl (hb hby d1_1)
  refine own_st (T' := T1) (F' := (mkF m 4 #[.val (.ref a1)] [(.ref w_SECTION), (.ref a1)])) st1 ?_
  by_cases ha4_2 : a1 = w_SECTION
  · refine own_st (T' := T1) (F' := (mkF m 14 #[.val (.ref a1)] [])) (fun t k => Jvm.RoadKit.acmp (g := (mkF m 4 #[.val (.ref a1)] [(.ref w_SECTION), (.ref a1)])) X1 hx rfl rfl rfl (pc0 := 4) (pc' := 14) (same := true) rfl (hb hby d1_4) rfl (decide_eq_true (congrArg Value.ref ha4_2)) (by decide) (by decide) k) ?_
    refine own_st (T' := T1) (F' := (mkF m 15 #[.val (.ref a1)] [(.int (1 : Int32))])) (fun t k => XS.iconst X1.here hx rfl (hb hby d1_14) k) ?_
    refine own_st (T' := T1) (F' := (mkF m 19 #[.val (.ref a1)] [(.int (1 : Int32))])) (fun t k => XS.goto X1.here hx rfl (pc0 := 15) (pc' := 19) rfl (hb hby d1_15) (by decide) (by decide) k) ?_
    exact own_retN X1 hx (t := .boolean) Bd.returns (by simp) (by decide) (hb hby d1_19) hlk (by show Q1 Z (.int r) h0 _ T1.heap _; rw [e1]; exact ⟨by simp [hr, ha4_2], N, rfl⟩) (by decide) (by decide)
  · refine own_st (T' := T1) (F' := (mkF m 7 #[.val (.ref a1)] [])) (fun t k => Jvm.RoadKit.acmp (g := (mkF m 4 #[.val (.ref a1)] [(.ref w_SECTION), (.ref a1)])) X1 hx rfl rfl rfl (pc0 := 4) (pc' := 7) (same := false) rfl (hb hby d1_4) rfl (decide_eq_false fun q => ha4_2 (Value.ref.inj q)) (by decide) (by decide) k) ?_
    refine own_st (T' := T1) (F' := (mkF m 8 #[.val (.ref a1)] [(.ref a1)])) (fun t k => XS.aloadN X1.here hx rfl (hb hby d1_7) rfl rfl k) ?_
    obtain ⟨T3, X3, e3, st3⟩ := getS2 X1 hx hZ hown (host := "") (Or.inl (hw _ (List.mem_of_getElem? (i := 27) rfl))) Via.refl e1 (S_RESERVED.ext O) (g := (mkF m 8 #[.val (.ref a1)] [(.ref a1)])) rfl (hb hby d1_8)
    refine own_st (T' := T3) (F' := (mkF m 11 #[.val (.ref a1)] [(.ref w_RESERVED), (.ref a1)])) st3 ?_
    by_cases ha11_4 : a1 = w_RESERVED
    · refine own_st (T' := T3) (F' := (mkF m 14 #[.val (.ref a1)] [])) (fun t k => Jvm.RoadKit.acmp (g := (mkF m 11 #[.val (.ref a1)] [(.ref w_RESERVED), (.ref a1)])) X3 hx rfl rfl rfl (pc0 := 11) (pc' := 14) (same := true) rfl (hb hby d1_11) rfl (decide_eq_true (congrArg Value.ref ha11_4)) (by decide) (by decide) k) ?_
      refine own_st (T' := T3) (F' := (mkF m 15 #[.val (.ref a1)] [(.int (1 : Int32))])) (fun t k => XS.iconst X3.here hx rfl (hb hby d1_14) k) ?_
      refine own_st (T' := T3) (F' := (mkF m 19 #[.val (.ref a1)] [(.int (1 : Int32))])) (fun t k => XS.goto X3.here hx rfl (pc0 := 15) (pc' := 19) rfl (hb hby d1_15) (by decide) (by decide) k) ?_
      exact own_retN X3 hx (t := .boolean) Bd.returns (by simp) (by decide) (hb hby d1_19) hlk (by show Q1 Z (.int r) h0 _ T3.heap _; rw [e3]; exact ⟨by simp [hr, ha4_2, ha11_4], N, rfl⟩) (by decide) (by decide)
    · refine own_st (T' := T3) (F' := (mkF m 18 #[.val (.ref a1)] [])) (fun t k => Jvm.RoadKit.acmp (g := (mkF m 11 #[.val (.ref a1)] [(.ref w_RESERVED), (.ref a1)])) X3 hx rfl rfl rfl (pc0 := 11) (pc' := 18) (same := false) rfl (hb hby d1_11) rfl (decide_eq_false fun q => ha11_4 (Value.ref.inj q)) (by decide) (by decide) k) ?_
      refine own_st (T' := T3) (F' := (mkF m 19 #[.val (.ref a1)] [(.int (0 : Int32))])) (fun t k => XS.iconst X3.here hx rfl (hb hby d1_18) k) ?_
      exact own_retN X3 hx (t := .boolean) Bd.returns (by simp) (by decide) (hb hby d1_19) hlk (by show Q1 Z (.int r) h0 _ T3.heap _; rw [e3]; exact ⟨by simp [hr, ha4_2, ha11_4], N, rfl⟩) (by decide) (by decide)
theorem pn_1 : plainName "com/example/catchline/catchline/KindNamesSectionsPinLaw" = true := by first | (simp [plainName, overriddenIn]; done) | decide +kernel
theorem pd_0 : parseMethodDescriptor "()Z" = some ⟨[], some .boolean⟩ := by decide +kernel
set_option maxRecDepth 65536 in
set_option maxHeartbeats 40000000 in
theorem rm0 (l : Launch) (Z : State) (a0 : Array Value) {w_FRONT : Addr} {w_PART : Addr} {w_CHAPTER : Addr} {w_ARTICLE : Addr} {w_DIVISION : Addr} {w_SECTION : Addr} {w_RESERVED : Addr} {w_BACK : Addr} (CX : Ctx Z a0 w_FRONT w_PART w_CHAPTER w_ARTICLE w_DIVISION w_SECTION w_RESERVED w_BACK) (ws : List Jvm.Cond) (x0 : Int32) (h0 : Heap) (O : Ext Z.heap h0)  :
    MetFree l x (head1 (Jvm.Cond.code x code maxLocals ret :: ws) room_1) (fun a U => a = #[(.int x0)] ∧ Z.Warmed39 U.vm ∧ U.heap = h0) (fun _ _ _ _ _ => True) (fun _ U o U' => ∃ v L, o = .returned v ∧ Q0 Z v U'.heap L ∧ FrameEnd U o U' L room_1.cells room_1.slots) := by
  refine MetFree.of_bodySF (plainFor_of_name pn_1) hisR ?_
  intro p e s m args below meth c s₁ Bd hml0 hP hK
  obtain ⟨rfl, hZ, hh⟩ := hP
  have CX0 := CX
  obtain ⟨hw, S_FRONT, E_FRONT, S_PART, E_PART, S_CHAPTER, E_CHAPTER, S_ARTICLE, E_ARTICLE, S_DIVISION, E_DIVISION, S_SECTION, E_SECTION, S_RESERVED, E_RESERVED, S_BACK, E_BACK, O_FRONT, O_SECTION, O_RESERVED, O_ARTICLE, O_BACK, O_CHAPTER, O_PART, O_DIVISION, -⟩ := CX0
  have hx := Bd.exec
  have hby := Bd.bytes
  have hml : c.maxLocals = 4 := hml0
  have hown : s.vm.findClass "com/example/catchline/catchline/KindNamesSectionsPinLaw" = some m.cls := findClass_of_methodNamed Bd.named
  have hnm := (name_of_methodNamed Bd.named Bd.method).1
  have hlk : meth.locks = false := BodyLoose.notSynchronized Bd
  have X0 : Stand p l e room_1 s m #[(.int x0)] below meth c s₁ [] 0 0 := Stand.of_body Bd
  have e0 : s₁.heap = h0 := by rw [← hh, Bd.state]; rfl
  have N := Fr.nil Z.heap.size
  show own_Done p.tables e below (own_R (Q0 Z) s 16 128) s₁ (entryFrame m #[(.int x0)] maxLocals)
  refine own_st (T' := s₁) (F' := (mkF m 0 #[.val (.int x0), .unset, .unset, .unset] [])) (fun t k => castTop (by first | rfl | (simp [entryFrame, mkF, argsToLocals, Value.category, maxLocals]; done)) k) ?_
  refine own_st (T' := s₁) (F' := (mkF m 2 #[.val (.int x0), .unset, .unset, .unset] [(.int (8 : Int32))])) (fun t k => XS.bipush X0.here hx rfl (hb hby at_0) k) ?_
  obtain ⟨T1, h1, k1, X1, e1, E1, A1, O1, st1⟩ := newR X0 hx hZ hown (hw _ (List.mem_of_getElem? (i := 0) rfl)) (hw _ (List.mem_of_getElem? (i := 1) rfl)) e0 (g := (mkF m 2 #[.val (.int x0), .unset, .unset, .unset] [(.int (8 : Int32))])) rfl (hb hby at_2) rfl (by decide) (cap := 8) (by decide) (by decide) (by decide) (by decide)
  obtain ⟨b1, g1⟩ : ∃ z, z = h0.size := ⟨_, rfl⟩
  rw [← g1] at A1 st1
  have g_b1 : Z.heap.size ≤ b1 := Nat.le_trans O.1 (Nat.le_of_eq g1.symm)
  have O := own_ext_trans O E1
  have V_b1 : Arv Z h1 b1 k1 (.object "com/example/catchline/catchline/Kind") (8 : Int32) [.null, .null, .null, .null, .null, .null, .null, .null] .null := (Arv.new A1 (by decide)).pad (pad_rep [] .null 8)
  refine own_st (T' := T1) (F' := (mkF m 5 #[.val (.int x0), .unset, .unset, .unset] [(.ref b1)])) st1 ?_
  refine own_st (T' := T1) (F' := (mkF m 6 #[.val (.int x0), .unset, .unset, .unset] [(.ref b1), (.ref b1)])) (fun t k => XS.dup X1.here hx rfl (hb hby at_5) rfl rfl k) ?_
  refine own_st (T' := T1) (F' := (mkF m 7 #[.val (.int x0), .unset, .unset, .unset] [(.int (0 : Int32)), (.ref b1), (.ref b1)])) (fun t k => XS.iconst X1.here hx rfl (hb hby at_6) k) ?_
  obtain ⟨T2, X2, e2, st2⟩ := getS2 X1 hx hZ hown (host := "") (Or.inl (hw _ (List.mem_of_getElem? (i := 2) rfl))) Via.refl e1 (S_FRONT.ext O) (g := (mkF m 7 #[.val (.int x0), .unset, .unset, .unset] [(.int (0 : Int32)), (.ref b1), (.ref b1)])) rfl (hb hby at_7)
  refine own_st (T' := T2) (F' := (mkF m 10 #[.val (.int x0), .unset, .unset, .unset] [(.ref w_FRONT), (.int (0 : Int32)), (.ref b1), (.ref b1)])) st2 ?_
  have V3 := V_b1
  obtain ⟨cl3, Ar3, qa3, Sa3, Na3, Ha3, Ga3⟩ := V3
  have hin3 : ¬ ((0 : Int32) < 0 ∨ cl3.slots.size ≤ ((0 : Int32)).toNatClampNeg) := inb_of Sa3 ⟨by decide, by decide⟩
  obtain ⟨T3, h3, X3, e3, W3, st3⟩ := stR X2 hx hZ e2 Ar3 (j := (0 : Int32)) hin3 rfl (Sto.ofV Ar3 qa3 O1 (Ins.self (E_FRONT.ext O))) (g := (mkF m 10 #[.val (.int x0), .unset, .unset, .unset] [(.ref w_FRONT), (.int (0 : Int32)), (.ref b1), (.ref b1)])) rfl rfl (hb hby at_10)
  have O := own_O_wr O W3 g_b1
  have N := Fr.snoc X3 N g_b1
  have V_b1 : Arv Z h3 b1 k1 (.object "com/example/catchline/catchline/Kind") (8 : Int32) [(.ref w_FRONT), .null, .null, .null, .null, .null, .null, .null] .null := Arv.set Ar3 qa3 Sa3 Na3 Ha3 Ga3 rfl W3 0 rfl (Nat.le_of_ble_eq_true rfl)
  refine own_st (T' := T3) (F' := (mkF m 11 #[.val (.int x0), .unset, .unset, .unset] [(.ref b1)])) st3 ?_
  refine own_st (T' := T3) (F' := (mkF m 12 #[.val (.int x0), .unset, .unset, .unset] [(.ref b1), (.ref b1)])) (fun t k => XS.dup X3.here hx rfl (hb hby at_11) rfl rfl k) ?_
  refine own_st (T' := T3) (F' := (mkF m 13 #[.val (.int x0), .unset, .unset, .unset] [(.int (1 : Int32)), (.ref b1), (.ref b1)])) (fun t k => XS.iconst X3.here hx rfl (hb hby at_12) k) ?_
  obtain ⟨T4, X4, e4, st4⟩ := getS2 X3 hx hZ hown (host := "") (Or.inl (hw _ (List.mem_of_getElem? (i := 6) rfl))) Via.refl e3 (S_PART.ext O) (g := (mkF m 13 #[.val (.int x0), .unset, .unset, .unset] [(.int (1 : Int32)), (.ref b1), (.ref b1)])) rfl (hb hby at_13)
  refine own_st (T' := T4) (F' := (mkF m 16 #[.val (.int x0), .unset, .unset, .unset] [(.ref w_PART), (.int (1 : Int32)), (.ref b1), (.ref b1)])) st4 ?_
  have V5 := V_b1
  obtain ⟨cl5, Ar5, qa5, Sa5, Na5, Ha5, Ga5⟩ := V5
  have hin5 : ¬ ((1 : Int32) < 0 ∨ cl5.slots.size ≤ ((1 : Int32)).toNatClampNeg) := inb_of Sa5 ⟨by decide, by decide⟩
  obtain ⟨T5, h5, X5, e5, W5, st5⟩ := stR X4 hx hZ e4 Ar5 (j := (1 : Int32)) hin5 rfl (Sto.ofV Ar5 qa5 O1 (Ins.self (E_PART.ext O))) (g := (mkF m 16 #[.val (.int x0), .unset, .unset, .unset] [(.ref w_PART), (.int (1 : Int32)), (.ref b1), (.ref b1)])) rfl rfl (hb hby at_16)
  have O := own_O_wr O W5 g_b1
  have N := Fr.snoc X5 N g_b1
  have V_b1 : Arv Z h5 b1 k1 (.object "com/example/catchline/catchline/Kind") (8 : Int32) [(.ref w_FRONT), (.ref w_PART), .null, .null, .null, .null, .null, .null] .null := Arv.set Ar5 qa5 Sa5 Na5 Ha5 Ga5 rfl W5 1 rfl (Nat.le_of_ble_eq_true rfl)
  refine own_st (T' := T5) (F' := (mkF m 17 #[.val (.int x0), .unset, .unset, .unset] [(.ref b1)])) st5 ?_
  refine own_st (T' := T5) (F' := (mkF m 18 #[.val (.int x0), .unset, .unset, .unset] [(.ref b1), (.ref b1)])) (fun t k => XS.dup X5.here hx rfl (hb hby at_17) rfl rfl k) ?_
  refine own_st (T' := T5) (F' := (mkF m 19 #[.val (.int x0), .unset, .unset, .unset] [(.int (2 : Int32)), (.ref b1), (.ref b1)])) (fun t k => XS.iconst X5.here hx rfl (hb hby at_18) k) ?_
  obtain ⟨T6, X6, e6, st6⟩ := getS2 X5 hx hZ hown (host := "") (Or.inl (hw _ (List.mem_of_getElem? (i := 8) rfl))) Via.refl e5 (S_CHAPTER.ext O) (g := (mkF m 19 #[.val (.int x0), .unset, .unset, .unset] [(.int (2 : Int32)), (.ref b1), (.ref b1)])) rfl (hb hby at_19)
  refine own_st (T' := T6) (F' := (mkF m 22 #[.val (.int x0), .unset, .unset, .unset] [(.ref w_CHAPTER), (.int (2 : Int32)), (.ref b1), (.ref b1)])) st6 ?_
  have V7 := V_b1
  obtain ⟨cl7, Ar7, qa7, Sa7, Na7, Ha7, Ga7⟩ := V7
  have hin7 : ¬ ((2 : Int32) < 0 ∨ cl7.slots.size ≤ ((2 : Int32)).toNatClampNeg) := inb_of Sa7 ⟨by decide, by decide⟩
  obtain ⟨T7, h7, X7, e7, W7, st7⟩ := stR X6 hx hZ e6 Ar7 (j := (2 : Int32)) hin7 rfl (Sto.ofV Ar7 qa7 O1 (Ins.self (E_CHAPTER.ext O))) (g := (mkF m 22 #[.val (.int x0), .unset, .unset, .unset] [(.ref w_CHAPTER), (.int (2 : Int32)), (.ref b1), (.ref b1)])) rfl rfl (hb hby at_22)
  have O := own_O_wr O W7 g_b1
  have N := Fr.snoc X7 N g_b1
  have V_b1 : Arv Z h7 b1 k1 (.object "com/example/catchline/catchline/Kind") (8 : Int32) [(.ref w_FRONT), (.ref w_PART), (.ref w_CHAPTER), .null, .null, .null, .null, .null] .null := Arv.set Ar7 qa7 Sa7 Na7 Ha7 Ga7 rfl W7 2 rfl (Nat.le_of_ble_eq_true rfl)
  refine own_st (T' := T7) (F' := (mkF m 23 #[.val (.int x0), .unset, .unset, .unset] [(.ref b1)])) st7 ?_
  refine own_st (T' := T7) (F' := (mkF m 24 #[.val (.int x0), .unset, .unset, .unset] [(.ref b1), (.ref b1)])) (fun t k => XS.dup X7.here hx rfl (hb hby at_23) rfl rfl k) ?_
  refine own_st (T' := T7) (F' := (mkF m 25 #[.val (.int x0), .unset, .unset, .unset] [(.int (3 : Int32)), (.ref b1), (.ref b1)])) (fun t k => XS.iconst X7.here hx rfl (hb hby at_24) k) ?_
  obtain ⟨T8, X8, e8, st8⟩ := getS2 X7 hx hZ hown (host := "") (Or.inl (hw _ (List.mem_of_getElem? (i := 10) rfl))) Via.refl e7 (S_ARTICLE.ext O) (g := (mkF m 25 #[.val (.int x0), .unset, .unset, .unset] [(.int (3 : Int32)), (.ref b1), (.ref b1)])) rfl (hb hby at_25)
  refine own_st (T' := T8) (F' := (mkF m 28 #[.val (.int x0), .unset, .unset, .unset] [(.ref w_ARTICLE), (.int (3 : Int32)), (.ref b1), (.ref b1)])) st8 ?_
  have V9 := V_b1
  obtain ⟨cl9, Ar9, qa9, Sa9, Na9, Ha9, Ga9⟩ := V9
  have hin9 : ¬ ((3 : Int32) < 0 ∨ cl9.slots.size ≤ ((3 : Int32)).toNatClampNeg) := inb_of Sa9 ⟨by decide, by decide⟩
  obtain ⟨T9, h9, X9, e9, W9, st9⟩ := stR X8 hx hZ e8 Ar9 (j := (3 : Int32)) hin9 rfl (Sto.ofV Ar9 qa9 O1 (Ins.self (E_ARTICLE.ext O))) (g := (mkF m 28 #[.val (.int x0), .unset, .unset, .unset] [(.ref w_ARTICLE), (.int (3 : Int32)), (.ref b1), (.ref b1)])) rfl rfl (hb hby at_28)
  have O := own_O_wr O W9 g_b1
  have N := Fr.snoc X9 N g_b1
  have V_b1 : Arv Z h9 b1 k1 (.object "com/example/catchline/catchline/Kind") (8 : Int32) [(.ref w_FRONT), (.ref w_PART), (.ref w_CHAPTER), (.ref w_ARTICLE), .null, .null, .null, .null] .null := Arv.set Ar9 qa9 Sa9 Na9 Ha9 Ga9 rfl W9 3 rfl (Nat.le_of_ble_eq_true rfl)
  refine own_st (T' := T9) (F' := (mkF m 29 #[.val (.int x0), .unset, .unset, .unset] [(.ref b1)])) st9 ?_
  refine own_st (T' := T9) (F' := (mkF m 30 #[.val (.int x0), .unset, .unset, .unset] [(.ref b1), (.ref b1)])) (fun t k => XS.dup X9.here hx rfl (hb hby at_29) rfl rfl k) ?_
  refine own_st (T' := T9) (F' := (mkF m 31 #[.val (.int x0), .unset, .unset, .unset] [(.int (4 : Int32)), (.ref b1), (.ref b1)])) (fun t k => XS.iconst X9.here hx rfl (hb hby at_30) k) ?_
  obtain ⟨T10, X10, e10, st10⟩ := getS2 X9 hx hZ hown (host := "") (Or.inl (hw _ (List.mem_of_getElem? (i := 12) rfl))) Via.refl e9 (S_DIVISION.ext O) (g := (mkF m 31 #[.val (.int x0), .unset, .unset, .unset] [(.int (4 : Int32)), (.ref b1), (.ref b1)])) rfl (hb hby at_31)
  refine own_st (T' := T10) (F' := (mkF m 34 #[.val (.int x0), .unset, .unset, .unset] [(.ref w_DIVISION), (.int (4 : Int32)), (.ref b1), (.ref b1)])) st10 ?_
  have V11 := V_b1
  obtain ⟨cl11, Ar11, qa11, Sa11, Na11, Ha11, Ga11⟩ := V11
  have hin11 : ¬ ((4 : Int32) < 0 ∨ cl11.slots.size ≤ ((4 : Int32)).toNatClampNeg) := inb_of Sa11 ⟨by decide, by decide⟩
  obtain ⟨T11, h11, X11, e11, W11, st11⟩ := stR X10 hx hZ e10 Ar11 (j := (4 : Int32)) hin11 rfl (Sto.ofV Ar11 qa11 O1 (Ins.self (E_DIVISION.ext O))) (g := (mkF m 34 #[.val (.int x0), .unset, .unset, .unset] [(.ref w_DIVISION), (.int (4 : Int32)), (.ref b1), (.ref b1)])) rfl rfl (hb hby at_34)
  have O := own_O_wr O W11 g_b1
  have N := Fr.snoc X11 N g_b1
  have V_b1 : Arv Z h11 b1 k1 (.object "com/example/catchline/catchline/Kind") (8 : Int32) [(.ref w_FRONT), (.ref w_PART), (.ref w_CHAPTER), (.ref w_ARTICLE), (.ref w_DIVISION), .null, .null, .null] .null := Arv.set Ar11 qa11 Sa11 Na11 Ha11 Ga11 rfl W11 4 rfl (Nat.le_of_ble_eq_true rfl)
  refine own_st (T' := T11) (F' := (mkF m 35 #[.val (.int x0), .unset, .unset, .unset] [(.ref b1)])) st11 ?_
  refine own_st (T' := T11) (F' := (mkF m 36 #[.val (.int x0), .unset, .unset, .unset] [(.ref b1), (.ref b1)])) (fun t k => XS.dup X11.here hx rfl (hb hby at_35) rfl rfl k) ?_
  refine own_st (T' := T11) (F' := (mkF m 37 #[.val (.int x0), .unset, .unset, .unset] [(.int (5 : Int32)), (.ref b1), (.ref b1)])) (fun t k => XS.iconst X11.here hx rfl (hb hby at_36) k) ?_
  obtain ⟨T12, X12, e12, st12⟩ := getS2 X11 hx hZ hown (host := "") (Or.inl (hw _ (List.mem_of_getElem? (i := 14) rfl))) Via.refl e11 (S_SECTION.ext O) (g := (mkF m 37 #[.val (.int x0), .unset, .unset, .unset] [(.int (5 : Int32)), (.ref b1), (.ref b1)])) rfl (hb hby at_37)
  refine own_st (T' := T12) (F' := (mkF m 40 #[.val (.int x0), .unset, .unset, .unset] [(.ref w_SECTION), (.int (5 : Int32)), (.ref b1), (.ref b1)])) st12 ?_
  have V13 := V_b1
  obtain ⟨cl13, Ar13, qa13, Sa13, Na13, Ha13, Ga13⟩ := V13
  have hin13 : ¬ ((5 : Int32) < 0 ∨ cl13.slots.size ≤ ((5 : Int32)).toNatClampNeg) := inb_of Sa13 ⟨by decide, by decide⟩
  obtain ⟨T13, h13, X13, e13, W13, st13⟩ := stR X12 hx hZ e12 Ar13 (j := (5 : Int32)) hin13 rfl (Sto.ofV Ar13 qa13 O1 (Ins.self (E_SECTION.ext O))) (g := (mkF m 40 #[.val (.int x0), .unset, .unset, .unset] [(.ref w_SECTION), (.int (5 : Int32)), (.ref b1), (.ref b1)])) rfl rfl (hb hby at_40)
  have O := own_O_wr O W13 g_b1
  have N := Fr.snoc X13 N g_b1
  have V_b1 : Arv Z h13 b1 k1 (.object "com/example/catchline/catchline/Kind") (8 : Int32) [(.ref w_FRONT), (.ref w_PART), (.ref w_CHAPTER), (.ref w_ARTICLE), (.ref w_DIVISION), (.ref w_SECTION), .null, .null] .null := Arv.set Ar13 qa13 Sa13 Na13 Ha13 Ga13 rfl W13 5 rfl (Nat.le_of_ble_eq_true rfl)
  refine own_st (T' := T13) (F' := (mkF m 41 #[.val (.int x0), .unset, .unset, .unset] [(.ref b1)])) st13 ?_
  refine own_st (T' := T13) (F' := (mkF m 42 #[.val (.int x0), .unset, .unset, .unset] [(.ref b1), (.ref b1)])) (fun t k => XS.dup X13.here hx rfl (hb hby at_41) rfl rfl k) ?_
  refine own_st (T' := T13) (F' := (mkF m 44 #[.val (.int x0), .unset, .unset, .unset] [(.int (6 : Int32)), (.ref b1), (.ref b1)])) (fun t k => XS.bipush X13.here hx rfl (hb hby at_42) k) ?_
  obtain ⟨T14, X14, e14, st14⟩ := getS2 X13 hx hZ hown (host := "") (Or.inl (hw _ (List.mem_of_getElem? (i := 16) rfl))) Via.refl e13 (S_RESERVED.ext O) (g := (mkF m 44 #[.val (.int x0), .unset, .unset, .unset] [(.int (6 : Int32)), (.ref b1), (.ref b1)])) rfl (hb hby at_44)
  refine own_st (T' := T14) (F' := (mkF m 47 #[.val (.int x0), .unset, .unset, .unset] [(.ref w_RESERVED), (.int (6 : Int32)), (.ref b1), (.ref b1)])) st14 ?_
  have V15 := V_b1
  obtain ⟨cl15, Ar15, qa15, Sa15, Na15, Ha15, Ga15⟩ := V15
  have hin15 : ¬ ((6 : Int32) < 0 ∨ cl15.slots.size ≤ ((6 : Int32)).toNatClampNeg) := inb_of Sa15 ⟨by decide, by decide⟩
  obtain ⟨T15, h15, X15, e15, W15, st15⟩ := stR X14 hx hZ e14 Ar15 (j := (6 : Int32)) hin15 rfl (Sto.ofV Ar15 qa15 O1 (Ins.self (E_RESERVED.ext O))) (g := (mkF m 47 #[.val (.int x0), .unset, .unset, .unset] [(.ref w_RESERVED), (.int (6 : Int32)), (.ref b1), (.ref b1)])) rfl rfl (hb hby at_47)
  have O := own_O_wr O W15 g_b1
  have N := Fr.snoc X15 N g_b1
  have V_b1 : Arv Z h15 b1 k1 (.object "com/example/catchline/catchline/Kind") (8 : Int32) [(.ref w_FRONT), (.ref w_PART), (.ref w_CHAPTER), (.ref w_ARTICLE), (.ref w_DIVISION), (.ref w_SECTION), (.ref w_RESERVED), .null] .null := Arv.set Ar15 qa15 Sa15 Na15 Ha15 Ga15 rfl W15 6 rfl (Nat.le_of_ble_eq_true rfl)
  refine own_st (T' := T15) (F' := (mkF m 48 #[.val (.int x0), .unset, .unset, .unset] [(.ref b1)])) st15 ?_
  refine own_st (T' := T15) (F' := (mkF m 49 #[.val (.int x0), .unset, .unset, .unset] [(.ref b1), (.ref b1)])) (fun t k => XS.dup X15.here hx rfl (hb hby at_48) rfl rfl k) ?_
  refine own_st (T' := T15) (F' := (mkF m 51 #[.val (.int x0), .unset, .unset, .unset] [(.int (7 : Int32)), (.ref b1), (.ref b1)])) (fun t k => XS.bipush X15.here hx rfl (hb hby at_49) k) ?_
  obtain ⟨T16, X16, e16, st16⟩ := getS2 X15 hx hZ hown (host := "") (Or.inl (hw _ (List.mem_of_getElem? (i := 18) rfl))) Via.refl e15 (S_BACK.ext O) (g := (mkF m 51 #[.val (.int x0), .unset, .unset, .unset] [(.int (7 : Int32)), (.ref b1), (.ref b1)])) rfl (hb hby at_51)
  refine own_st (T' := T16) (F' := (mkF m 54 #[.val (.int x0), .unset, .unset, .unset] [(.ref w_BACK), (.int (7 : Int32)), (.ref b1), (.ref b1)])) st16 ?_
  have V17 := V_b1
  obtain ⟨cl17, Ar17, qa17, Sa17, Na17, Ha17, Ga17⟩ := V17
  have hin17 : ¬ ((7 : Int32) < 0 ∨ cl17.slots.size ≤ ((7 : Int32)).toNatClampNeg) := inb_of Sa17 ⟨by decide, by decide⟩
  obtain ⟨T17, h17, X17, e17, W17, st17⟩ := stR X16 hx hZ e16 Ar17 (j := (7 : Int32)) hin17 rfl (Sto.ofV Ar17 qa17 O1 (Ins.self (E_BACK.ext O))) (g := (mkF m 54 #[.val (.int x0), .unset, .unset, .unset] [(.ref w_BACK), (.int (7 : Int32)), (.ref b1), (.ref b1)])) rfl rfl (hb hby at_54)
  have O := own_O_wr O W17 g_b1
  have N := Fr.snoc X17 N g_b1
  have V_b1 : Arv Z h17 b1 k1 (.object "com/example/catchline/catchline/Kind") (8 : Int32) [(.ref w_FRONT), (.ref w_PART), (.ref w_CHAPTER), (.ref w_ARTICLE), (.ref w_DIVISION), (.ref w_SECTION), (.ref w_RESERVED), (.ref w_BACK)] .null := Arv.set Ar17 qa17 Sa17 Na17 Ha17 Ga17 rfl W17 7 rfl (Nat.le_of_ble_eq_true rfl)
  refine own_st (T' := T17) (F' := (mkF m 55 #[.val (.int x0), .unset, .unset, .unset] [(.ref b1)])) st17 ?_
  refine own_st (T' := T17) (F' := (mkF m 56 #[.val (.int x0), .val (.ref b1), .unset, .unset] [])) (fun t k => XS.astoreN X17.here hx rfl (hb hby at_55) rfl rfl (l' := #[.val (.int x0), .val (.ref b1), .unset, .unset]) rfl k) ?_
  refine own_st (T' := T17) (F' := (mkF m 58 #[.val (.int x0), .val (.ref b1), .unset, .unset] [(.int (8 : Int32))])) (fun t k => XS.bipush X17.here hx rfl (hb hby at_56) k) ?_
  obtain ⟨T18, h18, k18, X18, e18, E18, A18, st18⟩ := newP X17 hx hZ (hw _ (List.mem_of_getElem? (i := 20) rfl)) e17 (g := (mkF m 58 #[.val (.int x0), .val (.ref b1), .unset, .unset] [(.int (8 : Int32))])) rfl (hb hby at_58) rfl (by decide) (cap := 8) (by decide) (by decide) (by decide) (by decide)
  obtain ⟨b18, g18⟩ : ∃ z, z = h17.size := ⟨_, rfl⟩
  rw [← g18] at A18 st18
  have ne_b1_b18 : b1 ≠ b18 := Nat.ne_of_lt (Nat.lt_of_lt_of_le V_b1.lt (Nat.le_of_eq g18.symm))
  have g_b18 : Z.heap.size ≤ b18 := Nat.le_trans O.1 (Nat.le_of_eq g18.symm)
  have V_b1 := V_b1.ext E18
  have O := own_ext_trans O E18
  have V_b18 : Arv Z h18 b18 k18 .boolean (8 : Int32) [(.int (0 : Int32)), (.int (0 : Int32)), (.int (0 : Int32)), (.int (0 : Int32)), (.int (0 : Int32)), (.int (0 : Int32)), (.int (0 : Int32)), (.int (0 : Int32))] (.int (0 : Int32)) := (Arv.new A18 (by decide)).pad (pad_rep [] (.int (0 : Int32)) 8)
  refine own_st (T' := T18) (F' := (mkF m 60 #[.val (.int x0), .val (.ref b1), .unset, .unset] [(.ref b18)])) st18 ?_
  refine own_st (T' := T18) (F' := (mkF m 61 #[.val (.int x0), .val (.ref b1), .unset, .unset] [(.ref b18), (.ref b18)])) (fun t k => XS.dup X18.here hx rfl (hb hby at_60) rfl rfl k) ?_
  refine own_st (T' := T18) (F' := (mkF m 62 #[.val (.int x0), .val (.ref b1), .unset, .unset] [(.int (0 : Int32)), (.ref b18), (.ref b18)])) (fun t k => XS.iconst X18.here hx rfl (hb hby at_61) k) ?_
  refine own_st (T' := T18) (F' := (mkF m 63 #[.val (.int x0), .val (.ref b1), .unset, .unset] [(.int (0 : Int32)), (.int (0 : Int32)), (.ref b18), (.ref b18)])) (fun t k => XS.iconst X18.here hx rfl (hb hby at_62) k) ?_
  have V19 := V_b18
  obtain ⟨cl19, Ar19, qa19, Sa19, Na19, Ha19, Ga19⟩ := V19
  have hin19 : ¬ ((0 : Int32) < 0 ∨ cl19.slots.size ≤ ((0 : Int32)).toNatClampNeg) := inb_of Sa19 ⟨by decide, by decide⟩
  obtain ⟨T19, h19, X19, e19, W19, st19⟩ := stZ X18 hx hZ e18 Ar19 (j := (0 : Int32)) hin19 (g := (mkF m 63 #[.val (.int x0), .val (.ref b1), .unset, .unset] [(.int (0 : Int32)), (.int (0 : Int32)), (.ref b18), (.ref b18)])) rfl rfl (hb hby at_63)
  have V_b1 := V_b1.other W19 ne_b1_b18
  have O := own_O_wr O W19 g_b18
  have N := Fr.snoc X19 N g_b18
  have V_b18 : Arv Z h19 b18 k18 .boolean (8 : Int32) [(.int (0 : Int32)), (.int (0 : Int32)), (.int (0 : Int32)), (.int (0 : Int32)), (.int (0 : Int32)), (.int (0 : Int32)), (.int (0 : Int32)), (.int (0 : Int32))] (.int (0 : Int32)) := Arv.set Ar19 qa19 Sa19 Na19 Ha19 Ga19 (fits_nar_bool _) W19 0 rfl (Nat.le_of_ble_eq_true rfl)
  refine own_st (T' := T19) (F' := (mkF m 64 #[.val (.int x0), .val (.ref b1), .unset, .unset] [(.ref b18)])) st19 ?_
  refine own_st (T' := T19) (F' := (mkF m 65 #[.val (.int x0), .val (.ref b1), .unset, .unset] [(.ref b18), (.ref b18)])) (fun t k => XS.dup X19.here hx rfl (hb hby at_64) rfl rfl k) ?_
  refine own_st (T' := T19) (F' := (mkF m 66 #[.val (.int x0), .val (.ref b1), .unset, .unset] [(.int (1 : Int32)), (.ref b18), (.ref b18)])) (fun t k => XS.iconst X19.here hx rfl (hb hby at_65) k) ?_
  refine own_st (T' := T19) (F' := (mkF m 67 #[.val (.int x0), .val (.ref b1), .unset, .unset] [(.int (0 : Int32)), (.int (1 : Int32)), (.ref b18), (.ref b18)])) (fun t k => XS.iconst X19.here hx rfl (hb hby at_66) k) ?_
  have V20 := V_b18
  obtain ⟨cl20, Ar20, qa20, Sa20, Na20, Ha20, Ga20⟩ := V20
  have hin20 : ¬ ((1 : Int32) < 0 ∨ cl20.slots.size ≤ ((1 : Int32)).toNatClampNeg) := inb_of Sa20 ⟨by decide, by decide⟩
  obtain ⟨T20, h20, X20, e20, W20, st20⟩ := stZ X19 hx hZ e19 Ar20 (j := (1 : Int32)) hin20 (g := (mkF m 67 #[.val (.int x0), .val (.ref b1), .unset, .unset] [(.int (0 : Int32)), (.int (1 : Int32)), (.ref b18), (.ref b18)])) rfl rfl (hb hby at_67)
  have V_b1 := V_b1.other W20 ne_b1_b18
  have O := own_O_wr O W20 g_b18
  have N := Fr.snoc X20 N g_b18
  have V_b18 : Arv Z h20 b18 k18 .boolean (8 : Int32) [(.int (0 : Int32)), (.int (0 : Int32)), (.int (0 : Int32)), (.int (0 : Int32)), (.int (0 : Int32)), (.int (0 : Int32)), (.int (0 : Int32)), (.int (0 : Int32))] (.int (0 : Int32)) := Arv.set Ar20 qa20 Sa20 Na20 Ha20 Ga20 (fits_nar_bool _) W20 1 rfl (Nat.le_of_ble_eq_true rfl)
  refine own_st (T' := T20) (F' := (mkF m 68 #[.val (.int x0), .val (.ref b1), .unset, .unset] [(.ref b18)])) st20 ?_
  refine own_st (T' := T20) (F' := (mkF m 69 #[.val (.int x0), .val (.ref b1), .unset, .unset] [(.ref b18), (.ref b18)])) (fun t k => XS.dup X20.here hx rfl (hb hby at_68) rfl rfl k) ?_
  refine own_st (T' := T20) (F' := (mkF m 70 #[.val (.int x0), .val (.ref b1), .unset, .unset] [(.int (2 : Int32)), (.ref b18), (.ref b18)])) (fun t k => XS.iconst X20.here hx rfl (hb hby at_69) k) ?_
  refine own_st (T' := T20) (F' := (mkF m 71 #[.val (.int x0), .val (.ref b1), .unset, .unset] [(.int (0 : Int32)), (.int (2 : Int32)), (.ref b18), (.ref b18)])) (fun t k => XS.iconst X20.here hx rfl (hb hby at_70) k) ?_
  have V21 := V_b18
  obtain ⟨cl21, Ar21, qa21, Sa21, Na21, Ha21, Ga21⟩ := V21
  have hin21 : ¬ ((2 : Int32) < 0 ∨ cl21.slots.size ≤ ((2 : Int32)).toNatClampNeg) := inb_of Sa21 ⟨by decide, by decide⟩
  obtain ⟨T21, h21, X21, e21, W21, st21⟩ := stZ X20 hx hZ e20 Ar21 (j := (2 : Int32)) hin21 (g := (mkF m 71 #[.val (.int x0), .val (.ref b1), .unset, .unset] [(.int (0 : Int32)), (.int (2 : Int32)), (.ref b18), (.ref b18)])) rfl rfl (hb hby at_71)
  have V_b1 := V_b1.other W21 ne_b1_b18
  have O := own_O_wr O W21 g_b18
  have N := Fr.snoc X21 N g_b18
  have V_b18 : Arv Z h21 b18 k18 .boolean (8 : Int32) [(.int (0 : Int32)), (.int (0 : Int32)), (.int (0 : Int32)), (.int (0 : Int32)), (.int (0 : Int32)), (.int (0 : Int32)), (.int (0 : Int32)), (.int (0 : Int32))] (.int (0 : Int32)) := Arv.set Ar21 qa21 Sa21 Na21 Ha21 Ga21 (fits_nar_bool _) W21 2 rfl (Nat.le_of_ble_eq_true rfl)
  refine own_st (T' := T21) (F' := (mkF m 72 #[.val (.int x0), .val (.ref b1), .unset, .unset] [(.ref b18)])) st21 ?_
  refine own_st (T' := T21) (F' := (mkF m 73 #[.val (.int x0), .val (.ref b1), .unset, .unset] [(.ref b18), (.ref b18)])) (fun t k => XS.dup X21.here hx rfl (hb hby at_72) rfl rfl k) ?_
  refine own_st (T' := T21) (F' := (mkF m 74 #[.val (.int x0), .val (.ref b1), .unset, .unset] [(.int (3 : Int32)), (.ref b18), (.ref b18)])) (fun t k => XS.iconst X21.here hx rfl (hb hby at_73) k) ?_
  refine own_st (T' := T21) (F' := (mkF m 75 #[.val (.int x0), .val (.ref b1), .unset, .unset] [(.int (0 : Int32)), (.int (3 : Int32)), (.ref b18), (.ref b18)])) (fun t k => XS.iconst X21.here hx rfl (hb hby at_74) k) ?_
  have V22 := V_b18
  obtain ⟨cl22, Ar22, qa22, Sa22, Na22, Ha22, Ga22⟩ := V22
  have hin22 : ¬ ((3 : Int32) < 0 ∨ cl22.slots.size ≤ ((3 : Int32)).toNatClampNeg) := inb_of Sa22 ⟨by decide, by decide⟩
  obtain ⟨T22, h22, X22, e22, W22, st22⟩ := stZ X21 hx hZ e21 Ar22 (j := (3 : Int32)) hin22 (g := (mkF m 75 #[.val (.int x0), .val (.ref b1), .unset, .unset] [(.int (0 : Int32)), (.int (3 : Int32)), (.ref b18), (.ref b18)])) rfl rfl (hb hby at_75)
  have V_b1 := V_b1.other W22 ne_b1_b18
  have O := own_O_wr O W22 g_b18
  have N := Fr.snoc X22 N g_b18
  have V_b18 : Arv Z h22 b18 k18 .boolean (8 : Int32) [(.int (0 : Int32)), (.int (0 : Int32)), (.int (0 : Int32)), (.int (0 : Int32)), (.int (0 : Int32)), (.int (0 : Int32)), (.int (0 : Int32)), (.int (0 : Int32))] (.int (0 : Int32)) := Arv.set Ar22 qa22 Sa22 Na22 Ha22 Ga22 (fits_nar_bool _) W22 3 rfl (Nat.le_of_ble_eq_true rfl)
  refine own_st (T' := T22) (F' := (mkF m 76 #[.val (.int x0), .val (.ref b1), .unset, .unset] [(.ref b18)])) st22 ?_
  refine own_st (T' := T22) (F' := (mkF m 77 #[.val (.int x0), .val (.ref b1), .unset, .unset] [(.ref b18), (.ref b18)])) (fun t k => XS.dup X22.here hx rfl (hb hby at_76) rfl rfl k) ?_
  refine own_st (T' := T22) (F' := (mkF m 78 #[.val (.int x0), .val (.ref b1), .unset, .unset] [(.int (4 : Int32)), (.ref b18), (.ref b18)])) (fun t k => XS.iconst X22.here hx rfl (hb hby at_77) k) ?_
  refine own_st (T' := T22) (F' := (mkF m 79 #[.val (.int x0), .val (.ref b1), .unset, .unset] [(.int (0 : Int32)), (.int (4 : Int32)), (.ref b18), (.ref b18)])) (fun t k => XS.iconst X22.here hx rfl (hb hby at_78) k) ?_
  have V23 := V_b18
  obtain ⟨cl23, Ar23, qa23, Sa23, Na23, Ha23, Ga23⟩ := V23
  have hin23 : ¬ ((4 : Int32) < 0 ∨ cl23.slots.size ≤ ((4 : Int32)).toNatClampNeg) := inb_of Sa23 ⟨by decide, by decide⟩
  obtain ⟨T23, h23, X23, e23, W23, st23⟩ := stZ X22 hx hZ e22 Ar23 (j := (4 : Int32)) hin23 (g := (mkF m 79 #[.val (.int x0), .val (.ref b1), .unset, .unset] [(.int (0 : Int32)), (.int (4 : Int32)), (.ref b18), (.ref b18)])) rfl rfl (hb hby at_79)
  have V_b1 := V_b1.other W23 ne_b1_b18
  have O := own_O_wr O W23 g_b18
  have N := Fr.snoc X23 N g_b18
  have V_b18 : Arv Z h23 b18 k18 .boolean (8 : Int32) [(.int (0 : Int32)), (.int (0 : Int32)), (.int (0 : Int32)), (.int (0 : Int32)), (.int (0 : Int32)), (.int (0 : Int32)), (.int (0 : Int32)), (.int (0 : Int32))] (.int (0 : Int32)) := Arv.set Ar23 qa23 Sa23 Na23 Ha23 Ga23 (fits_nar_bool _) W23 4 rfl (Nat.le_of_ble_eq_true rfl)
  refine own_st (T' := T23) (F' := (mkF m 80 #[.val (.int x0), .val (.ref b1), .unset, .unset] [(.ref b18)])) st23 ?_
  refine own_st (T' := T23) (F' := (mkF m 81 #[.val (.int x0), .val (.ref b1), .unset, .unset] [(.ref b18), (.ref b18)])) (fun t k => XS.dup X23.here hx rfl (hb hby at_80) rfl rfl k) ?_
  refine own_st (T' := T23) (F' := (mkF m 82 #[.val (.int x0), .val (.ref b1), .unset, .unset] [(.int (5 : Int32)), (.ref b18), (.ref b18)])) (fun t k => XS.iconst X23.here hx rfl (hb hby at_81) k) ?_
  refine own_st (T' := T23) (F' := (mkF m 83 #[.val (.int x0), .val (.ref b1), .unset, .unset] [(.int (1 : Int32)), (.int (5 : Int32)), (.ref b18), (.ref b18)])) (fun t k => XS.iconst X23.here hx rfl (hb hby at_82) k) ?_
  have V24 := V_b18
  obtain ⟨cl24, Ar24, qa24, Sa24, Na24, Ha24, Ga24⟩ := V24
  have hin24 : ¬ ((5 : Int32) < 0 ∨ cl24.slots.size ≤ ((5 : Int32)).toNatClampNeg) := inb_of Sa24 ⟨by decide, by decide⟩
  obtain ⟨T24, h24, X24, e24, W24, st24⟩ := stZ X23 hx hZ e23 Ar24 (j := (5 : Int32)) hin24 (g := (mkF m 83 #[.val (.int x0), .val (.ref b1), .unset, .unset] [(.int (1 : Int32)), (.int (5 : Int32)), (.ref b18), (.ref b18)])) rfl rfl (hb hby at_83)
  have V_b1 := V_b1.other W24 ne_b1_b18
  have O := own_O_wr O W24 g_b18
  have N := Fr.snoc X24 N g_b18
  have V_b18 : Arv Z h24 b18 k18 .boolean (8 : Int32) [(.int (0 : Int32)), (.int (0 : Int32)), (.int (0 : Int32)), (.int (0 : Int32)), (.int (0 : Int32)), (.int (1 : Int32)), (.int (0 : Int32)), (.int (0 : Int32))] (.int (0 : Int32)) := Arv.set Ar24 qa24 Sa24 Na24 Ha24 Ga24 (fits_nar_bool _) W24 5 rfl (Nat.le_of_ble_eq_true rfl)
  refine own_st (T' := T24) (F' := (mkF m 84 #[.val (.int x0), .val (.ref b1), .unset, .unset] [(.ref b18)])) st24 ?_
  refine own_st (T' := T24) (F' := (mkF m 85 #[.val (.int x0), .val (.ref b1), .unset, .unset] [(.ref b18), (.ref b18)])) (fun t k => XS.dup X24.here hx rfl (hb hby at_84) rfl rfl k) ?_
  refine own_st (T' := T24) (F' := (mkF m 87 #[.val (.int x0), .val (.ref b1), .unset, .unset] [(.int (6 : Int32)), (.ref b18), (.ref b18)])) (fun t k => XS.bipush X24.here hx rfl (hb hby at_85) k) ?_
  refine own_st (T' := T24) (F' := (mkF m 88 #[.val (.int x0), .val (.ref b1), .unset, .unset] [(.int (1 : Int32)), (.int (6 : Int32)), (.ref b18), (.ref b18)])) (fun t k => XS.iconst X24.here hx rfl (hb hby at_87) k) ?_
  have V25 := V_b18
  obtain ⟨cl25, Ar25, qa25, Sa25, Na25, Ha25, Ga25⟩ := V25
  have hin25 : ¬ ((6 : Int32) < 0 ∨ cl25.slots.size ≤ ((6 : Int32)).toNatClampNeg) := inb_of Sa25 ⟨by decide, by decide⟩
  obtain ⟨T25, h25, X25, e25, W25, st25⟩ := stZ X24 hx hZ e24 Ar25 (j := (6 : Int32)) hin25 (g := (mkF m 88 #[.val (.int x0), .val (.ref b1), .unset, .unset] [(.int (1 : Int32)), (.int (6 : Int32)), (.ref b18), (.ref b18)])) rfl rfl (hb hby at_88)
  have V_b1 := V_b1.other W25 ne_b1_b18
  have O := own_O_wr O W25 g_b18
  have N := Fr.snoc X25 N g_b18
  have V_b18 : Arv Z h25 b18 k18 .boolean (8 : Int32) [(.int (0 : Int32)), (.int (0 : Int32)), (.int (0 : Int32)), (.int (0 : Int32)), (.int (0 : Int32)), (.int (1 : Int32)), (.int (1 : Int32)), (.int (0 : Int32))] (.int (0 : Int32)) := Arv.set Ar25 qa25 Sa25 Na25 Ha25 Ga25 (fits_nar_bool _) W25 6 rfl (Nat.le_of_ble_eq_true rfl)
  refine own_st (T' := T25) (F' := (mkF m 89 #[.val (.int x0), .val (.ref b1), .unset, .unset] [(.ref b18)])) st25 ?_
  refine own_st (T' := T25) (F' := (mkF m 90 #[.val (.int x0), .val (.ref b1), .unset, .unset] [(.ref b18), (.ref b18)])) (fun t k => XS.dup X25.here hx rfl (hb hby at_89) rfl rfl k) ?_
  refine own_st (T' := T25) (F' := (mkF m 92 #[.val (.int x0), .val (.ref b1), .unset, .unset] [(.int (7 : Int32)), (.ref b18), (.ref b18)])) (fun t k => XS.bipush X25.here hx rfl (hb hby at_90) k) ?_
  refine own_st (T' := T25) (F' := (mkF m 93 #[.val (.int x0), .val (.ref b1), .unset, .unset] [(.int (0 : Int32)), (.int (7 : Int32)), (.ref b18), (.ref b18)])) (fun t k => XS.iconst X25.here hx rfl (hb hby at_92) k) ?_
  have V26 := V_b18
  obtain ⟨cl26, Ar26, qa26, Sa26, Na26, Ha26, Ga26⟩ := V26
  have hin26 : ¬ ((7 : Int32) < 0 ∨ cl26.slots.size ≤ ((7 : Int32)).toNatClampNeg) := inb_of Sa26 ⟨by decide, by decide⟩
  obtain ⟨T26, h26, X26, e26, W26, st26⟩ := stZ X25 hx hZ e25 Ar26 (j := (7 : Int32)) hin26 (g := (mkF m 93 #[.val (.int x0), .val (.ref b1), .unset, .unset] [(.int (0 : Int32)), (.int (7 : Int32)), (.ref b18), (.ref b18)])) rfl rfl (hb hby at_93)
  have V_b1 := V_b1.other W26 ne_b1_b18
  have O := own_O_wr O W26 g_b18
  have N := Fr.snoc X26 N g_b18
  have V_b18 : Arv Z h26 b18 k18 .boolean (8 : Int32) [(.int (0 : Int32)), (.int (0 : Int32)), (.int (0 : Int32)), (.int (0 : Int32)), (.int (0 : Int32)), (.int (1 : Int32)), (.int (1 : Int32)), (.int (0 : Int32))] (.int (0 : Int32)) := Arv.set Ar26 qa26 Sa26 Na26 Ha26 Ga26 (fits_nar_bool _) W26 7 rfl (Nat.le_of_ble_eq_true rfl)
  refine own_st (T' := T26) (F' := (mkF m 94 #[.val (.int x0), .val (.ref b1), .unset, .unset] [(.ref b18)])) st26 ?_
  refine own_st (T' := T26) (F' := (mkF m 95 #[.val (.int x0), .val (.ref b1), .val (.ref b18), .unset] [])) (fun t k => XS.astoreN X26.here hx rfl (hb hby at_94) rfl rfl (l' := #[.val (.int x0), .val (.ref b1), .val (.ref b18), .unset]) rfl k) ?_
  refine own_st (T' := T26) (F' := (mkF m 96 #[.val (.int x0), .val (.ref b1), .val (.ref b18), .unset] [(.int x0)])) (fun t k => XS.iloadN X26.here hx rfl (hb hby at_95) rfl k) ?_
  refine own_st (T' := T26) (F' := (mkF m 98 #[.val (.int x0), .val (.ref b1), .val (.ref b18), .unset] [(.int (7 : Int32)), (.int x0)])) (fun t k => XS.bipush X26.here hx rfl (hb hby at_96) k) ?_
  refine own_st (T' := T26) (F' := (mkF m 99 #[.val (.int x0), .val (.ref b1), .val (.ref b18), .unset] [(.int (x0 &&& (7 : Int32)))])) (fun t k => XS.iand X26.here hx rfl (hb hby at_98) rfl k) ?_
  refine own_st (T' := T26) (F' := (mkF m 100 #[.val (.int x0), .val (.ref b1), .val (.ref b18), .val (.int (x0 &&& (7 : Int32)))] [])) (fun t k => XS.istoreN X26.here hx rfl (hb hby at_99) rfl (l' := #[.val (.int x0), .val (.ref b1), .val (.ref b18), .val (.int (x0 &&& (7 : Int32)))]) rfl k) ?_
  by_cases hk0_27 : (x0 &&& (7 : Int32)) = (0 : Int32)
  · rw [hk0_27]
    refine own_st (T' := T26) (F' := (mkF m 101 #[.val (.int x0), .val (.ref b1), .val (.ref b18), .val (.int (0 : Int32))] [(.ref b1)])) (fun t k => XS.aloadN X26.here hx rfl (hb hby at_100) rfl rfl k) ?_
    refine own_st (T' := T26) (F' := (mkF m 102 #[.val (.int x0), .val (.ref b1), .val (.ref b18), .val (.int (0 : Int32))] [(.int (0 : Int32)), (.ref b1)])) (fun t k => XS.iloadN X26.here hx rfl (hb hby at_101) rfl k) ?_
    have V28 := V_b1
    obtain ⟨cl28, Ar28, qa28, Sa28, Na28, Ha28, Ga28⟩ := V28
    have hin28 : ¬ ((0 : Int32) < 0 ∨ cl28.slots.size ≤ ((0 : Int32)).toNatClampNeg) := inb_of Sa28 ⟨by decide, by decide⟩
    have hat28 : cl28.slots[((0 : Int32)).toNatClampNeg]? = some (.ref w_FRONT) := Has.at Ha28 hin28 rfl
    refine own_st (T' := T26) (F' := (mkF m 103 #[.val (.int x0), .val (.ref b1), .val (.ref b18), .val (.int (0 : Int32))] [(.ref w_FRONT)])) (fun t k => X26.aaload hx (j := (0 : Int32)) (v := (.ref w_FRONT)) (by rw [e26]; exact Ar28.1) (State.isArrayOf_alike hZ.alike Ar28.2.1) rfl Ar28.2.2 hin28 hat28 (g := (mkF m 102 #[.val (.int x0), .val (.ref b1), .val (.ref b18), .val (.int (0 : Int32))] [(.int (0 : Int32)), (.ref b1)])) rfl rfl (hb hby at_102) _ k) ?_
    obtain ⟨cq29, kq29, q29a, q29b, q29c⟩ := isOf hZ e26 (E_FRONT.ext O)
    obtain ⟨v29, _, ⟨T29, L29, k29, n29⟩, -, X29, ⟨Lc29, hQ29, l29, y29, z29⟩, st29⟩ := X26.virtualBack hx (y := (⟨"com/example/catchline/catchline/Kind", "namesSections", "()Z"⟩ : MethodName)) (z := (⟨"com/example/catchline/catchline/Kind", "namesSections", "()Z"⟩ : MethodName)) hown (mvT hZ (hw _ (List.mem_of_getElem? (i := 21) rfl))) (mvT hZ (hw _ (List.mem_of_getElem? (i := 22) rfl))) (notFace_of_selects (args := #[]) (mvT hZ (hw _ (List.mem_of_getElem? (i := 24) rfl)))) (mvT hZ (hw _ (List.mem_of_getElem? (i := 24) rfl))) (mvT hZ (hw _ (List.mem_of_getElem? (i := 23) rfl))) (by decide) (backOf (W := 0) (rm1 l Z a0 CX [] w_FRONT (0 : Int32) h26 O (by simp [(O_FRONT.ne O_SECTION (by decide)), (O_FRONT.ne O_RESERVED (by decide))])) hZ (hw _ (List.mem_of_getElem? (i := 25) rfl)) (hw _ (List.mem_of_getElem? (i := 3) rfl)) (by decide) (by decide)) q29a q29c (g := (mkF m 103 #[.val (.int x0), .val (.ref b1), .val (.ref b18), .val (.int (0 : Int32))] [(.ref w_FRONT)])) rfl (by rw [hml]; rfl) (Steps.refl _) (argsL := []) (rest := []) (lenOf pd_0 rfl) rfl (by show 2 * 0 + _ ≤ _; exact Nat.le_of_eq rfl) (hb hby at_103) (fun _ _ => ⟨rfl, e26, (by decide : 2 + 0 ≤ _), (by decide : 16 + 0 ≤ _)⟩)
    dsimp only [Pt.U, Pt.locs, Pt.cells, Pt.slots] at X29 l29 y29 z29 st29 hQ29
    subst l29 y29 z29
    obtain ⟨rfl, N29q, e29⟩ := hQ29
    have N := Fr.app N N29q
    refine own_tr (T' := T29) (F' := (mkF m 106 #[.val (.int x0), .val (.ref b1), .val (.ref b18), .val (.int (0 : Int32))] [(.int (0 : Int32))])) st29 ?_
    refine own_st (T' := T29) (F' := (mkF m 107 #[.val (.int x0), .val (.ref b1), .val (.ref b18), .val (.int (0 : Int32))] [(.ref b18), (.int (0 : Int32))])) (fun t k => XS.aloadN X29.here hx rfl (hb hby at_106) rfl rfl k) ?_
    refine own_st (T' := T29) (F' := (mkF m 108 #[.val (.int x0), .val (.ref b1), .val (.ref b18), .val (.int (0 : Int32))] [(.int (0 : Int32)), (.ref b18), (.int (0 : Int32))])) (fun t k => XS.iloadN X29.here hx rfl (hb hby at_107) rfl k) ?_
    have V30 := V_b18
    obtain ⟨cl30, Ar30, qa30, Sa30, Na30, Ha30, Ga30⟩ := V30
    have hin30 : ¬ ((0 : Int32) < 0 ∨ cl30.slots.size ≤ ((0 : Int32)).toNatClampNeg) := inb_of Sa30 ⟨by decide, by decide⟩
    have hat30 : cl30.slots[((0 : Int32)).toNatClampNeg]? = some (.int (0 : Int32)) := Has.at Ha30 hin30 rfl
    refine own_st (T' := T29) (F' := (mkF m 109 #[.val (.int x0), .val (.ref b1), .val (.ref b18), .val (.int (0 : Int32))] [(.int (0 : Int32)), (.int (0 : Int32))])) (fun t k => X29.baloadBooleans hx (j := (0 : Int32)) (v := (.int (0 : Int32))) (by rw [e29]; exact Ar30.1) (State.isArrayOf_alike hZ.alike Ar30.2.1) Ar30.2.2 hin30 hat30 (g := (mkF m 108 #[.val (.int x0), .val (.ref b1), .val (.ref b18), .val (.int (0 : Int32))] [(.int (0 : Int32)), (.ref b18), (.int (0 : Int32))])) rfl rfl (hb hby at_108) _ k) ?_
    refine own_st (T' := T29) (F' := (mkF m 112 #[.val (.int x0), .val (.ref b1), .val (.ref b18), .val (.int (0 : Int32))] [])) (fun t k => XS.icmpNo X29.here hx rfl (hb hby at_109) rfl (teq rfl).2 k) ?_
    refine own_st (T' := T29) (F' := (mkF m 113 #[.val (.int x0), .val (.ref b1), .val (.ref b18), .val (.int (0 : Int32))] [(.int (1 : Int32))])) (fun t k => XS.iconst X29.here hx rfl (hb hby at_112) k) ?_
    refine own_st (T' := T29) (F' := (mkF m 117 #[.val (.int x0), .val (.ref b1), .val (.ref b18), .val (.int (0 : Int32))] [(.int (1 : Int32))])) (fun t k => XS.goto X29.here hx rfl (pc0 := 113) (pc' := 117) rfl (hb hby at_113) (by decide) (by decide) k) ?_
    exact own_retN X29 hx (t := .boolean) Bd.returns (by simp) (by decide) (hb hby at_117) hlk (by show Q0 Z _ T29.heap _; rw [e29]; exact ⟨rfl, N⟩) (by decide) (by decide)
  · by_cases hk1_31 : (x0 &&& (7 : Int32)) = (1 : Int32)
    · rw [hk1_31]
      refine own_st (T' := T26) (F' := (mkF m 101 #[.val (.int x0), .val (.ref b1), .val (.ref b18), .val (.int (1 : Int32))] [(.ref b1)])) (fun t k => XS.aloadN X26.here hx rfl (hb hby at_100) rfl rfl k) ?_
      refine own_st (T' := T26) (F' := (mkF m 102 #[.val (.int x0), .val (.ref b1), .val (.ref b18), .val (.int (1 : Int32))] [(.int (1 : Int32)), (.ref b1)])) (fun t k => XS.iloadN X26.here hx rfl (hb hby at_101) rfl k) ?_
      have V32 := V_b1
      obtain ⟨cl32, Ar32, qa32, Sa32, Na32, Ha32, Ga32⟩ := V32
      have hin32 : ¬ ((1 : Int32) < 0 ∨ cl32.slots.size ≤ ((1 : Int32)).toNatClampNeg) := inb_of Sa32 ⟨by decide, by decide⟩
      have hat32 : cl32.slots[((1 : Int32)).toNatClampNeg]? = some (.ref w_PART) := Has.at Ha32 hin32 rfl
      refine own_st (T' := T26) (F' := (mkF m 103 #[.val (.int x0), .val (.ref b1), .val (.ref b18), .val (.int (1 : Int32))] [(.ref w_PART)])) (fun t k => X26.aaload hx (j := (1 : Int32)) (v := (.ref w_PART)) (by rw [e26]; exact Ar32.1) (State.isArrayOf_alike hZ.alike Ar32.2.1) rfl Ar32.2.2 hin32 hat32 (g := (mkF m 102 #[.val (.int x0), .val (.ref b1), .val (.ref b18), .val (.int (1 : Int32))] [(.int (1 : Int32)), (.ref b1)])) rfl rfl (hb hby at_102) _ k) ?_
      obtain ⟨cq33, kq33, q33a, q33b, q33c⟩ := isOf hZ e26 (E_PART.ext O)
      obtain ⟨v33, _, ⟨T33, L33, k33, n33⟩, -, X33, ⟨Lc33, hQ33, l33, y33, z33⟩, st33⟩ := X26.virtualBack hx (y := (⟨"com/example/catchline/catchline/Kind", "namesSections", "()Z"⟩ : MethodName)) (z := (⟨"com/example/catchline/catchline/Kind", "namesSections", "()Z"⟩ : MethodName)) hown (mvT hZ (hw _ (List.mem_of_getElem? (i := 21) rfl))) (mvT hZ (hw _ (List.mem_of_getElem? (i := 22) rfl))) (notFace_of_selects (args := #[]) (mvT hZ (hw _ (List.mem_of_getElem? (i := 24) rfl)))) (mvT hZ (hw _ (List.mem_of_getElem? (i := 24) rfl))) (mvT hZ (hw _ (List.mem_of_getElem? (i := 23) rfl))) (by decide) (backOf (W := 0) (rm1 l Z a0 CX [] w_PART (0 : Int32) h26 O (by simp [(O_PART.ne O_SECTION (by decide)), (O_PART.ne O_RESERVED (by decide))])) hZ (hw _ (List.mem_of_getElem? (i := 25) rfl)) (hw _ (List.mem_of_getElem? (i := 3) rfl)) (by decide) (by decide)) q33a q33c (g := (mkF m 103 #[.val (.int x0), .val (.ref b1), .val (.ref b18), .val (.int (1 : Int32))] [(.ref w_PART)])) rfl (by rw [hml]; rfl) (Steps.refl _) (argsL := []) (rest := []) (lenOf pd_0 rfl) rfl (by show 2 * 0 + _ ≤ _; exact Nat.le_of_eq rfl) (hb hby at_103) (fun _ _ => ⟨rfl, e26, (by decide : 2 + 0 ≤ _), (by decide : 16 + 0 ≤ _)⟩)
      dsimp only [Pt.U, Pt.locs, Pt.cells, Pt.slots] at X33 l33 y33 z33 st33 hQ33
      subst l33 y33 z33
      obtain ⟨rfl, N33q, e33⟩ := hQ33
      have N := Fr.app N N33q
      refine own_tr (T' := T33) (F' := (mkF m 106 #[.val (.int x0), .val (.ref b1), .val (.ref b18), .val (.int (1 : Int32))] [(.int (0 : Int32))])) st33 ?_
      refine own_st (T' := T33) (F' := (mkF m 107 #[.val (.int x0), .val (.ref b1), .val (.ref b18), .val (.int (1 : Int32))] [(.ref b18), (.int (0 : Int32))])) (fun t k => XS.aloadN X33.here hx rfl (hb hby at_106) rfl rfl k) ?_
      refine own_st (T' := T33) (F' := (mkF m 108 #[.val (.int x0), .val (.ref b1), .val (.ref b18), .val (.int (1 : Int32))] [(.int (1 : Int32)), (.ref b18), (.int (0 : Int32))])) (fun t k => XS.iloadN X33.here hx rfl (hb hby at_107) rfl k) ?_
      have V34 := V_b18
      obtain ⟨cl34, Ar34, qa34, Sa34, Na34, Ha34, Ga34⟩ := V34
      have hin34 : ¬ ((1 : Int32) < 0 ∨ cl34.slots.size ≤ ((1 : Int32)).toNatClampNeg) := inb_of Sa34 ⟨by decide, by decide⟩
      have hat34 : cl34.slots[((1 : Int32)).toNatClampNeg]? = some (.int (0 : Int32)) := Has.at Ha34 hin34 rfl
      refine own_st (T' := T33) (F' := (mkF m 109 #[.val (.int x0), .val (.ref b1), .val (.ref b18), .val (.int (1 : Int32))] [(.int (0 : Int32)), (.int (0 : Int32))])) (fun t k => X33.baloadBooleans hx (j := (1 : Int32)) (v := (.int (0 : Int32))) (by rw [e33]; exact Ar34.1) (State.isArrayOf_alike hZ.alike Ar34.2.1) Ar34.2.2 hin34 hat34 (g := (mkF m 108 #[.val (.int x0), .val (.ref b1), .val (.ref b18), .val (.int (1 : Int32))] [(.int (1 : Int32)), (.ref b18), (.int (0 : Int32))])) rfl rfl (hb hby at_108) _ k) ?_
      refine own_st (T' := T33) (F' := (mkF m 112 #[.val (.int x0), .val (.ref b1), .val (.ref b18), .val (.int (1 : Int32))] [])) (fun t k => XS.icmpNo X33.here hx rfl (hb hby at_109) rfl (teq rfl).2 k) ?_
      refine own_st (T' := T33) (F' := (mkF m 113 #[.val (.int x0), .val (.ref b1), .val (.ref b18), .val (.int (1 : Int32))] [(.int (1 : Int32))])) (fun t k => XS.iconst X33.here hx rfl (hb hby at_112) k) ?_
      refine own_st (T' := T33) (F' := (mkF m 117 #[.val (.int x0), .val (.ref b1), .val (.ref b18), .val (.int (1 : Int32))] [(.int (1 : Int32))])) (fun t k => XS.goto X33.here hx rfl (pc0 := 113) (pc' := 117) rfl (hb hby at_113) (by decide) (by decide) k) ?_
      exact own_retN X33 hx (t := .boolean) Bd.returns (by simp) (by decide) (hb hby at_117) hlk (by show Q0 Z _ T33.heap _; rw [e33]; exact ⟨rfl, N⟩) (by decide) (by decide)
    · by_cases hk2_35 : (x0 &&& (7 : Int32)) = (2 : Int32)
      · rw [hk2_35]
        refine own_st (T' := T26) (F' := (mkF m 101 #[.val (.int x0), .val (.ref b1), .val (.ref b18), .val (.int (2 : Int32))] [(.ref b1)])) (fun t k => XS.aloadN X26.here hx rfl (hb hby at_100) rfl rfl k) ?_
        refine own_st (T' := T26) (F' := (mkF m 102 #[.val (.int x0), .val (.ref b1), .val (.ref b18), .val (.int (2 : Int32))] [(.int (2 : Int32)), (.ref b1)])) (fun t k => XS.iloadN X26.here hx rfl (hb hby at_101) rfl k) ?_
        have V36 := V_b1
        obtain ⟨cl36, Ar36, qa36, Sa36, Na36, Ha36, Ga36⟩ := V36
        have hin36 : ¬ ((2 : Int32) < 0 ∨ cl36.slots.size ≤ ((2 : Int32)).toNatClampNeg) := inb_of Sa36 ⟨by decide, by decide⟩
        have hat36 : cl36.slots[((2 : Int32)).toNatClampNeg]? = some (.ref w_CHAPTER) := Has.at Ha36 hin36 rfl
        refine own_st (T' := T26) (F' := (mkF m 103 #[.val (.int x0), .val (.ref b1), .val (.ref b18), .val (.int (2 : Int32))] [(.ref w_CHAPTER)])) (fun t k => X26.aaload hx (j := (2 : Int32)) (v := (.ref w_CHAPTER)) (by rw [e26]; exact Ar36.1) (State.isArrayOf_alike hZ.alike Ar36.2.1) rfl Ar36.2.2 hin36 hat36 (g := (mkF m 102 #[.val (.int x0), .val (.ref b1), .val (.ref b18), .val (.int (2 : Int32))] [(.int (2 : Int32)), (.ref b1)])) rfl rfl (hb hby at_102) _ k) ?_
        obtain ⟨cq37, kq37, q37a, q37b, q37c⟩ := isOf hZ e26 (E_CHAPTER.ext O)
        obtain ⟨v37, _, ⟨T37, L37, k37, n37⟩, -, X37, ⟨Lc37, hQ37, l37, y37, z37⟩, st37⟩ := X26.virtualBack hx (y := (⟨"com/example/catchline/catchline/Kind", "namesSections", "()Z"⟩ : MethodName)) (z := (⟨"com/example/catchline/catchline/Kind", "namesSections", "()Z"⟩ : MethodName)) hown (mvT hZ (hw _ (List.mem_of_getElem? (i := 21) rfl))) (mvT hZ (hw _ (List.mem_of_getElem? (i := 22) rfl))) (notFace_of_selects (args := #[]) (mvT hZ (hw _ (List.mem_of_getElem? (i := 24) rfl)))) (mvT hZ (hw _ (List.mem_of_getElem? (i := 24) rfl))) (mvT hZ (hw _ (List.mem_of_getElem? (i := 23) rfl))) (by decide) (backOf (W := 0) (rm1 l Z a0 CX [] w_CHAPTER (0 : Int32) h26 O (by simp [(O_CHAPTER.ne O_SECTION (by decide)), (O_CHAPTER.ne O_RESERVED (by decide))])) hZ (hw _ (List.mem_of_getElem? (i := 25) rfl)) (hw _ (List.mem_of_getElem? (i := 3) rfl)) (by decide) (by decide)) q37a q37c (g := (mkF m 103 #[.val (.int x0), .val (.ref b1), .val (.ref b18), .val (.int (2 : Int32))] [(.ref w_CHAPTER)])) rfl (by rw [hml]; rfl) (Steps.refl _) (argsL := []) (rest := []) (lenOf pd_0 rfl) rfl (by show 2 * 0 + _ ≤ _; exact Nat.le_of_eq rfl) (hb hby at_103) (fun _ _ => ⟨rfl, e26, (by decide : 2 + 0 ≤ _), (by decide : 16 + 0 ≤ _)⟩)
        dsimp only [Pt.U, Pt.locs, Pt.cells, Pt.slots] at X37 l37 y37 z37 st37 hQ37
        subst l37 y37 z37
        obtain ⟨rfl, N37q, e37⟩ := hQ37
        have N := Fr.app N N37q
        refine own_tr (T' := T37) (F' := (mkF m 106 #[.val (.int x0), .val (.ref b1), .val (.ref b18), .val (.int (2 : Int32))] [(.int (0 : Int32))])) st37 ?_
        refine own_st (T' := T37) (F' := (mkF m 107 #[.val (.int x0), .val (.ref b1), .val (.ref b18), .val (.int (2 : Int32))] [(.ref b18), (.int (0 : Int32))])) (fun t k => XS.aloadN X37.here hx rfl (hb hby at_106) rfl rfl k) ?_
        refine own_st (T' := T37) (F' := (mkF m 108 #[.val (.int x0), .val (.ref b1), .val (.ref b18), .val (.int (2 : Int32))] [(.int (2 : Int32)), (.ref b18), (.int (0 : Int32))])) (fun t k => XS.iloadN X37.here hx rfl (hb hby at_107) rfl k) ?_
        have V38 := V_b18
        obtain ⟨cl38, Ar38, qa38, Sa38, Na38, Ha38, Ga38⟩ := V38
        have hin38 : ¬ ((2 : Int32) < 0 ∨ cl38.slots.size ≤ ((2 : Int32)).toNatClampNeg) := inb_of Sa38 ⟨by decide, by decide⟩
        have hat38 : cl38.slots[((2 : Int32)).toNatClampNeg]? = some (.int (0 : Int32)) := Has.at Ha38 hin38 rfl
        refine own_st (T' := T37) (F' := (mkF m 109 #[.val (.int x0), .val (.ref b1), .val (.ref b18), .val (.int (2 : Int32))] [(.int (0 : Int32)), (.int (0 : Int32))])) (fun t k => X37.baloadBooleans hx (j := (2 : Int32)) (v := (.int (0 : Int32))) (by rw [e37]; exact Ar38.1) (State.isArrayOf_alike hZ.alike Ar38.2.1) Ar38.2.2 hin38 hat38 (g := (mkF m 108 #[.val (.int x0), .val (.ref b1), .val (.ref b18), .val (.int (2 : Int32))] [(.int (2 : Int32)), (.ref b18), (.int (0 : Int32))])) rfl rfl (hb hby at_108) _ k) ?_
        refine own_st (T' := T37) (F' := (mkF m 112 #[.val (.int x0), .val (.ref b1), .val (.ref b18), .val (.int (2 : Int32))] [])) (fun t k => XS.icmpNo X37.here hx rfl (hb hby at_109) rfl (teq rfl).2 k) ?_
        refine own_st (T' := T37) (F' := (mkF m 113 #[.val (.int x0), .val (.ref b1), .val (.ref b18), .val (.int (2 : Int32))] [(.int (1 : Int32))])) (fun t k => XS.iconst X37.here hx rfl (hb hby at_112) k) ?_
        refine own_st (T' := T37) (F' := (mkF m 117 #[.val (.int x0), .val (.ref b1), .val (.ref b18), .val (.int (2 : Int32))] [(.int (1 : Int32))])) (fun t k => XS.goto X37.here hx rfl (pc0 := 113) (pc' := 117) rfl (hb hby at_113) (by decide) (by decide) k) ?_
        exact own_retN X37 hx (t := .boolean) Bd.returns (by simp) (by decide) (hb hby at_117) hlk (by show Q0 Z _ T37.heap _; rw [e37]; exact ⟨rfl, N⟩) (by decide) (by decide)
      · by_cases hk3_39 : (x0 &&& (7 : Int32)) = (3 : Int32)
        · rw [hk3_39]
          refine own_st (T' := T26) (F' := (mkF m 101 #[.val (.int x0), .val (.ref b1), .val (.ref b18), .val (.int (3 : Int32))] [(.ref b1)])) (fun t k => XS.aloadN X26.here hx rfl (hb hby at_100) rfl rfl k) ?_
          refine own_st (T' := T26) (F' := (mkF m 102 #[.val (.int x0), .val (.ref b1), .val (.ref b18), .val (.int (3 : Int32))] [(.int (3 : Int32)), (.ref b1)])) (fun t k => XS.iloadN X26.here hx rfl (hb hby at_101) rfl k) ?_
          have V40 := V_b1
          obtain ⟨cl40, Ar40, qa40, Sa40, Na40, Ha40, Ga40⟩ := V40
          have hin40 : ¬ ((3 : Int32) < 0 ∨ cl40.slots.size ≤ ((3 : Int32)).toNatClampNeg) := inb_of Sa40 ⟨by decide, by decide⟩
          have hat40 : cl40.slots[((3 : Int32)).toNatClampNeg]? = some (.ref w_ARTICLE) := Has.at Ha40 hin40 rfl
          refine own_st (T' := T26) (F' := (mkF m 103 #[.val (.int x0), .val (.ref b1), .val (.ref b18), .val (.int (3 : Int32))] [(.ref w_ARTICLE)])) (fun t k => X26.aaload hx (j := (3 : Int32)) (v := (.ref w_ARTICLE)) (by rw [e26]; exact Ar40.1) (State.isArrayOf_alike hZ.alike Ar40.2.1) rfl Ar40.2.2 hin40 hat40 (g := (mkF m 102 #[.val (.int x0), .val (.ref b1), .val (.ref b18), .val (.int (3 : Int32))] [(.int (3 : Int32)), (.ref b1)])) rfl rfl (hb hby at_102) _ k) ?_
          obtain ⟨cq41, kq41, q41a, q41b, q41c⟩ := isOf hZ e26 (E_ARTICLE.ext O)
          obtain ⟨v41, _, ⟨T41, L41, k41, n41⟩, -, X41, ⟨Lc41, hQ41, l41, y41, z41⟩, st41⟩ := X26.virtualBack hx (y := (⟨"com/example/catchline/catchline/Kind", "namesSections", "()Z"⟩ : MethodName)) (z := (⟨"com/example/catchline/catchline/Kind", "namesSections", "()Z"⟩ : MethodName)) hown (mvT hZ (hw _ (List.mem_of_getElem? (i := 21) rfl))) (mvT hZ (hw _ (List.mem_of_getElem? (i := 22) rfl))) (notFace_of_selects (args := #[]) (mvT hZ (hw _ (List.mem_of_getElem? (i := 24) rfl)))) (mvT hZ (hw _ (List.mem_of_getElem? (i := 24) rfl))) (mvT hZ (hw _ (List.mem_of_getElem? (i := 23) rfl))) (by decide) (backOf (W := 0) (rm1 l Z a0 CX [] w_ARTICLE (0 : Int32) h26 O (by simp [(O_ARTICLE.ne O_SECTION (by decide)), (O_ARTICLE.ne O_RESERVED (by decide))])) hZ (hw _ (List.mem_of_getElem? (i := 25) rfl)) (hw _ (List.mem_of_getElem? (i := 3) rfl)) (by decide) (by decide)) q41a q41c (g := (mkF m 103 #[.val (.int x0), .val (.ref b1), .val (.ref b18), .val (.int (3 : Int32))] [(.ref w_ARTICLE)])) rfl (by rw [hml]; rfl) (Steps.refl _) (argsL := []) (rest := []) (lenOf pd_0 rfl) rfl (by show 2 * 0 + _ ≤ _; exact Nat.le_of_eq rfl) (hb hby at_103) (fun _ _ => ⟨rfl, e26, (by decide : 2 + 0 ≤ _), (by decide : 16 + 0 ≤ _)⟩)
          dsimp only [Pt.U, Pt.locs, Pt.cells, Pt.slots] at X41 l41 y41 z41 st41 hQ41
          subst l41 y41 z41
          obtain ⟨rfl, N41q, e41⟩ := hQ41
          have N := Fr.app N N41q
          refine own_tr (T' := T41) (F' := (mkF m 106 #[.val (.int x0), .val (.ref b1), .val (.ref b18), .val (.int (3 : Int32))] [(.int (0 : Int32))])) st41 ?_
          refine own_st (T' := T41) (F' := (mkF m 107 #[.val (.int x0), .val (.ref b1), .val (.ref b18), .val (.int (3 : Int32))] [(.ref b18), (.int (0 : Int32))])) (fun t k => XS.aloadN X41.here hx rfl (hb hby at_106) rfl rfl k) ?_
          refine own_st (T' := T41) (F' := (mkF m 108 #[.val (.int x0), .val (.ref b1), .val (.ref b18), .val (.int (3 : Int32))] [(.int (3 : Int32)), (.ref b18), (.int (0 : Int32))])) (fun t k => XS.iloadN X41.here hx rfl (hb hby at_107) rfl k) ?_
          have V42 := V_b18
          obtain ⟨cl42, Ar42, qa42, Sa42, Na42, Ha42, Ga42⟩ := V42
          have hin42 : ¬ ((3 : Int32) < 0 ∨ cl42.slots.size ≤ ((3 : Int32)).toNatClampNeg) := inb_of Sa42 ⟨by decide, by decide⟩
          have hat42 : cl42.slots[((3 : Int32)).toNatClampNeg]? = some (.int (0 : Int32)) := Has.at Ha42 hin42 rfl
          refine own_st (T' := T41) (F' := (mkF m 109 #[.val (.int x0), .val (.ref b1), .val (.ref b18), .val (.int (3 : Int32))] [(.int (0 : Int32)), (.int (0 : Int32))])) (fun t k => X41.baloadBooleans hx (j := (3 : Int32)) (v := (.int (0 : Int32))) (by rw [e41]; exact Ar42.1) (State.isArrayOf_alike hZ.alike Ar42.2.1) Ar42.2.2 hin42 hat42 (g := (mkF m 108 #[.val (.int x0), .val (.ref b1), .val (.ref b18), .val (.int (3 : Int32))] [(.int (3 : Int32)), (.ref b18), (.int (0 : Int32))])) rfl rfl (hb hby at_108) _ k) ?_
          refine own_st (T' := T41) (F' := (mkF m 112 #[.val (.int x0), .val (.ref b1), .val (.ref b18), .val (.int (3 : Int32))] [])) (fun t k => XS.icmpNo X41.here hx rfl (hb hby at_109) rfl (teq rfl).2 k) ?_
          refine own_st (T' := T41) (F' := (mkF m 113 #[.val (.int x0), .val (.ref b1), .val (.ref b18), .val (.int (3 : Int32))] [(.int (1 : Int32))])) (fun t k => XS.iconst X41.here hx rfl (hb hby at_112) k) ?_
          refine own_st (T' := T41) (F' := (mkF m 117 #[.val (.int x0), .val (.ref b1), .val (.ref b18), .val (.int (3 : Int32))] [(.int (1 : Int32))])) (fun t k => XS.goto X41.here hx rfl (pc0 := 113) (pc' := 117) rfl (hb hby at_113) (by decide) (by decide) k) ?_
          exact own_retN X41 hx (t := .boolean) Bd.returns (by simp) (by decide) (hb hby at_117) hlk (by show Q0 Z _ T41.heap _; rw [e41]; exact ⟨rfl, N⟩) (by decide) (by decide)
        · by_cases hk4_43 : (x0 &&& (7 : Int32)) = (4 : Int32)
          · rw [hk4_43]
            refine own_st (T' := T26) (F' := (mkF m 101 #[.val (.int x0), .val (.ref b1), .val (.ref b18), .val (.int (4 : Int32))] [(.ref b1)])) (fun t k => XS.aloadN X26.here hx rfl (hb hby at_100) rfl rfl k) ?_
            refine own_st (T' := T26) (F' := (mkF m 102 #[.val (.int x0), .val (.ref b1), .val (.ref b18), .val (.int (4 : Int32))] [(.int (4 : Int32)), (.ref b1)])) (fun t k => XS.iloadN X26.here hx rfl (hb hby at_101) rfl k) ?_
            have V44 := V_b1
            obtain ⟨cl44, Ar44, qa44, Sa44, Na44, Ha44, Ga44⟩ := V44
            have hin44 : ¬ ((4 : Int32) < 0 ∨ cl44.slots.size ≤ ((4 : Int32)).toNatClampNeg) := inb_of Sa44 ⟨by decide, by decide⟩
            have hat44 : cl44.slots[((4 : Int32)).toNatClampNeg]? = some (.ref w_DIVISION) := Has.at Ha44 hin44 rfl
            refine own_st (T' := T26) (F' := (mkF m 103 #[.val (.int x0), .val (.ref b1), .val (.ref b18), .val (.int (4 : Int32))] [(.ref w_DIVISION)])) (fun t k => X26.aaload hx (j := (4 : Int32)) (v := (.ref w_DIVISION)) (by rw [e26]; exact Ar44.1) (State.isArrayOf_alike hZ.alike Ar44.2.1) rfl Ar44.2.2 hin44 hat44 (g := (mkF m 102 #[.val (.int x0), .val (.ref b1), .val (.ref b18), .val (.int (4 : Int32))] [(.int (4 : Int32)), (.ref b1)])) rfl rfl (hb hby at_102) _ k) ?_
            obtain ⟨cq45, kq45, q45a, q45b, q45c⟩ := isOf hZ e26 (E_DIVISION.ext O)
            obtain ⟨v45, _, ⟨T45, L45, k45, n45⟩, -, X45, ⟨Lc45, hQ45, l45, y45, z45⟩, st45⟩ := X26.virtualBack hx (y := (⟨"com/example/catchline/catchline/Kind", "namesSections", "()Z"⟩ : MethodName)) (z := (⟨"com/example/catchline/catchline/Kind", "namesSections", "()Z"⟩ : MethodName)) hown (mvT hZ (hw _ (List.mem_of_getElem? (i := 21) rfl))) (mvT hZ (hw _ (List.mem_of_getElem? (i := 22) rfl))) (notFace_of_selects (args := #[]) (mvT hZ (hw _ (List.mem_of_getElem? (i := 24) rfl)))) (mvT hZ (hw _ (List.mem_of_getElem? (i := 24) rfl))) (mvT hZ (hw _ (List.mem_of_getElem? (i := 23) rfl))) (by decide) (backOf (W := 0) (rm1 l Z a0 CX [] w_DIVISION (0 : Int32) h26 O (by simp [(O_DIVISION.ne O_SECTION (by decide)), (O_DIVISION.ne O_RESERVED (by decide))])) hZ (hw _ (List.mem_of_getElem? (i := 25) rfl)) (hw _ (List.mem_of_getElem? (i := 3) rfl)) (by decide) (by decide)) q45a q45c (g := (mkF m 103 #[.val (.int x0), .val (.ref b1), .val (.ref b18), .val (.int (4 : Int32))] [(.ref w_DIVISION)])) rfl (by rw [hml]; rfl) (Steps.refl _) (argsL := []) (rest := []) (lenOf pd_0 rfl) rfl (by show 2 * 0 + _ ≤ _; exact Nat.le_of_eq rfl) (hb hby at_103) (fun _ _ => ⟨rfl, e26, (by decide : 2 + 0 ≤ _), (by decide : 16 + 0 ≤ _)⟩)
            dsimp only [Pt.U, Pt.locs, Pt.cells, Pt.slots] at X45 l45 y45 z45 st45 hQ45
            subst l45 y45 z45
            obtain ⟨rfl, N45q, e45⟩ := hQ45
            have N := Fr.app N N45q
            refine own_tr (T' := T45) (F' := (mkF m 106 #[.val (.int x0), .val (.ref b1), .val (.ref b18), .val (.int (4 : Int32))] [(.int (0 : Int32))])) st45 ?_
            refine own_st (T' := T45) (F' := (mkF m 107 #[.val (.int x0), .val (.ref b1), .val (.ref b18), .val (.int (4 : Int32))] [(.ref b18), (.int (0 : Int32))])) (fun t k => XS.aloadN X45.here hx rfl (hb hby at_106) rfl rfl k) ?_
            refine own_st (T' := T45) (F' := (mkF m 108 #[.val (.int x0), .val (.ref b1), .val (.ref b18), .val (.int (4 : Int32))] [(.int (4 : Int32)), (.ref b18), (.int (0 : Int32))])) (fun t k => XS.iloadN X45.here hx rfl (hb hby at_107) rfl k) ?_
            have V46 := V_b18
            obtain ⟨cl46, Ar46, qa46, Sa46, Na46, Ha46, Ga46⟩ := V46
            have hin46 : ¬ ((4 : Int32) < 0 ∨ cl46.slots.size ≤ ((4 : Int32)).toNatClampNeg) := inb_of Sa46 ⟨by decide, by decide⟩
            have hat46 : cl46.slots[((4 : Int32)).toNatClampNeg]? = some (.int (0 : Int32)) := Has.at Ha46 hin46 rfl
            refine own_st (T' := T45) (F' := (mkF m 109 #[.val (.int x0), .val (.ref b1), .val (.ref b18), .val (.int (4 : Int32))] [(.int (0 : Int32)), (.int (0 : Int32))])) (fun t k => X45.baloadBooleans hx (j := (4 : Int32)) (v := (.int (0 : Int32))) (by rw [e45]; exact Ar46.1) (State.isArrayOf_alike hZ.alike Ar46.2.1) Ar46.2.2 hin46 hat46 (g := (mkF m 108 #[.val (.int x0), .val (.ref b1), .val (.ref b18), .val (.int (4 : Int32))] [(.int (4 : Int32)), (.ref b18), (.int (0 : Int32))])) rfl rfl (hb hby at_108) _ k) ?_
            refine own_st (T' := T45) (F' := (mkF m 112 #[.val (.int x0), .val (.ref b1), .val (.ref b18), .val (.int (4 : Int32))] [])) (fun t k => XS.icmpNo X45.here hx rfl (hb hby at_109) rfl (teq rfl).2 k) ?_
            refine own_st (T' := T45) (F' := (mkF m 113 #[.val (.int x0), .val (.ref b1), .val (.ref b18), .val (.int (4 : Int32))] [(.int (1 : Int32))])) (fun t k => XS.iconst X45.here hx rfl (hb hby at_112) k) ?_
            refine own_st (T' := T45) (F' := (mkF m 117 #[.val (.int x0), .val (.ref b1), .val (.ref b18), .val (.int (4 : Int32))] [(.int (1 : Int32))])) (fun t k => XS.goto X45.here hx rfl (pc0 := 113) (pc' := 117) rfl (hb hby at_113) (by decide) (by decide) k) ?_
            exact own_retN X45 hx (t := .boolean) Bd.returns (by simp) (by decide) (hb hby at_117) hlk (by show Q0 Z _ T45.heap _; rw [e45]; exact ⟨rfl, N⟩) (by decide) (by decide)
          · by_cases hk5_47 : (x0 &&& (7 : Int32)) = (5 : Int32)
            · rw [hk5_47]
              refine own_st (T' := T26) (F' := (mkF m 101 #[.val (.int x0), .val (.ref b1), .val (.ref b18), .val (.int (5 : Int32))] [(.ref b1)])) (fun t k => XS.aloadN X26.here hx rfl (hb hby at_100) rfl rfl k) ?_
              refine own_st (T' := T26) (F' := (mkF m 102 #[.val (.int x0), .val (.ref b1), .val (.ref b18), .val (.int (5 : Int32))] [(.int (5 : Int32)), (.ref b1)])) (fun t k => XS.iloadN X26.here hx rfl (hb hby at_101) rfl k) ?_
              have V48 := V_b1
              obtain ⟨cl48, Ar48, qa48, Sa48, Na48, Ha48, Ga48⟩ := V48
              have hin48 : ¬ ((5 : Int32) < 0 ∨ cl48.slots.size ≤ ((5 : Int32)).toNatClampNeg) := inb_of Sa48 ⟨by decide, by decide⟩
              have hat48 : cl48.slots[((5 : Int32)).toNatClampNeg]? = some (.ref w_SECTION) := Has.at Ha48 hin48 rfl
              refine own_st (T' := T26) (F' := (mkF m 103 #[.val (.int x0), .val (.ref b1), .val (.ref b18), .val (.int (5 : Int32))] [(.ref w_SECTION)])) (fun t k => X26.aaload hx (j := (5 : Int32)) (v := (.ref w_SECTION)) (by rw [e26]; exact Ar48.1) (State.isArrayOf_alike hZ.alike Ar48.2.1) rfl Ar48.2.2 hin48 hat48 (g := (mkF m 102 #[.val (.int x0), .val (.ref b1), .val (.ref b18), .val (.int (5 : Int32))] [(.int (5 : Int32)), (.ref b1)])) rfl rfl (hb hby at_102) _ k) ?_
              obtain ⟨cq49, kq49, q49a, q49b, q49c⟩ := isOf hZ e26 (E_SECTION.ext O)
              obtain ⟨v49, _, ⟨T49, L49, k49, n49⟩, -, X49, ⟨Lc49, hQ49, l49, y49, z49⟩, st49⟩ := X26.virtualBack hx (y := (⟨"com/example/catchline/catchline/Kind", "namesSections", "()Z"⟩ : MethodName)) (z := (⟨"com/example/catchline/catchline/Kind", "namesSections", "()Z"⟩ : MethodName)) hown (mvT hZ (hw _ (List.mem_of_getElem? (i := 21) rfl))) (mvT hZ (hw _ (List.mem_of_getElem? (i := 22) rfl))) (notFace_of_selects (args := #[]) (mvT hZ (hw _ (List.mem_of_getElem? (i := 24) rfl)))) (mvT hZ (hw _ (List.mem_of_getElem? (i := 24) rfl))) (mvT hZ (hw _ (List.mem_of_getElem? (i := 23) rfl))) (by decide) (backOf (W := 0) (rm1 l Z a0 CX [] w_SECTION (1 : Int32) h26 O (by simp [(O_SECTION.ne O_RESERVED (by decide))])) hZ (hw _ (List.mem_of_getElem? (i := 25) rfl)) (hw _ (List.mem_of_getElem? (i := 3) rfl)) (by decide) (by decide)) q49a q49c (g := (mkF m 103 #[.val (.int x0), .val (.ref b1), .val (.ref b18), .val (.int (5 : Int32))] [(.ref w_SECTION)])) rfl (by rw [hml]; rfl) (Steps.refl _) (argsL := []) (rest := []) (lenOf pd_0 rfl) rfl (by show 2 * 0 + _ ≤ _; exact Nat.le_of_eq rfl) (hb hby at_103) (fun _ _ => ⟨rfl, e26, (by decide : 2 + 0 ≤ _), (by decide : 16 + 0 ≤ _)⟩)
              dsimp only [Pt.U, Pt.locs, Pt.cells, Pt.slots] at X49 l49 y49 z49 st49 hQ49
              subst l49 y49 z49
              obtain ⟨rfl, N49q, e49⟩ := hQ49
              have N := Fr.app N N49q
              refine own_tr (T' := T49) (F' := (mkF m 106 #[.val (.int x0), .val (.ref b1), .val (.ref b18), .val (.int (5 : Int32))] [(.int (1 : Int32))])) st49 ?_
              refine own_st (T' := T49) (F' := (mkF m 107 #[.val (.int x0), .val (.ref b1), .val (.ref b18), .val (.int (5 : Int32))] [(.ref b18), (.int (1 : Int32))])) (fun t k => XS.aloadN X49.here hx rfl (hb hby at_106) rfl rfl k) ?_
              refine own_st (T' := T49) (F' := (mkF m 108 #[.val (.int x0), .val (.ref b1), .val (.ref b18), .val (.int (5 : Int32))] [(.int (5 : Int32)), (.ref b18), (.int (1 : Int32))])) (fun t k => XS.iloadN X49.here hx rfl (hb hby at_107) rfl k) ?_
              have V50 := V_b18
              obtain ⟨cl50, Ar50, qa50, Sa50, Na50, Ha50, Ga50⟩ := V50
              have hin50 : ¬ ((5 : Int32) < 0 ∨ cl50.slots.size ≤ ((5 : Int32)).toNatClampNeg) := inb_of Sa50 ⟨by decide, by decide⟩
              have hat50 : cl50.slots[((5 : Int32)).toNatClampNeg]? = some (.int (1 : Int32)) := Has.at Ha50 hin50 rfl
              refine own_st (T' := T49) (F' := (mkF m 109 #[.val (.int x0), .val (.ref b1), .val (.ref b18), .val (.int (5 : Int32))] [(.int (1 : Int32)), (.int (1 : Int32))])) (fun t k => X49.baloadBooleans hx (j := (5 : Int32)) (v := (.int (1 : Int32))) (by rw [e49]; exact Ar50.1) (State.isArrayOf_alike hZ.alike Ar50.2.1) Ar50.2.2 hin50 hat50 (g := (mkF m 108 #[.val (.int x0), .val (.ref b1), .val (.ref b18), .val (.int (5 : Int32))] [(.int (5 : Int32)), (.ref b18), (.int (1 : Int32))])) rfl rfl (hb hby at_108) _ k) ?_
              refine own_st (T' := T49) (F' := (mkF m 112 #[.val (.int x0), .val (.ref b1), .val (.ref b18), .val (.int (5 : Int32))] [])) (fun t k => XS.icmpNo X49.here hx rfl (hb hby at_109) rfl (teq rfl).2 k) ?_
              refine own_st (T' := T49) (F' := (mkF m 113 #[.val (.int x0), .val (.ref b1), .val (.ref b18), .val (.int (5 : Int32))] [(.int (1 : Int32))])) (fun t k => XS.iconst X49.here hx rfl (hb hby at_112) k) ?_
              refine own_st (T' := T49) (F' := (mkF m 117 #[.val (.int x0), .val (.ref b1), .val (.ref b18), .val (.int (5 : Int32))] [(.int (1 : Int32))])) (fun t k => XS.goto X49.here hx rfl (pc0 := 113) (pc' := 117) rfl (hb hby at_113) (by decide) (by decide) k) ?_
              exact own_retN X49 hx (t := .boolean) Bd.returns (by simp) (by decide) (hb hby at_117) hlk (by show Q0 Z _ T49.heap _; rw [e49]; exact ⟨rfl, N⟩) (by decide) (by decide)
            · by_cases hk6_51 : (x0 &&& (7 : Int32)) = (6 : Int32)
              · rw [hk6_51]
                refine own_st (T' := T26) (F' := (mkF m 101 #[.val (.int x0), .val (.ref b1), .val (.ref b18), .val (.int (6 : Int32))] [(.ref b1)])) (fun t k => XS.aloadN X26.here hx rfl (hb hby at_100) rfl rfl k) ?_
                refine own_st (T' := T26) (F' := (mkF m 102 #[.val (.int x0), .val (.ref b1), .val (.ref b18), .val (.int (6 : Int32))] [(.int (6 : Int32)), (.ref b1)])) (fun t k => XS.iloadN X26.here hx rfl (hb hby at_101) rfl k) ?_
                have V52 := V_b1
                obtain ⟨cl52, Ar52, qa52, Sa52, Na52, Ha52, Ga52⟩ := V52
                have hin52 : ¬ ((6 : Int32) < 0 ∨ cl52.slots.size ≤ ((6 : Int32)).toNatClampNeg) := inb_of Sa52 ⟨by decide, by decide⟩
                have hat52 : cl52.slots[((6 : Int32)).toNatClampNeg]? = some (.ref w_RESERVED) := Has.at Ha52 hin52 rfl
                refine own_st (T' := T26) (F' := (mkF m 103 #[.val (.int x0), .val (.ref b1), .val (.ref b18), .val (.int (6 : Int32))] [(.ref w_RESERVED)])) (fun t k => X26.aaload hx (j := (6 : Int32)) (v := (.ref w_RESERVED)) (by rw [e26]; exact Ar52.1) (State.isArrayOf_alike hZ.alike Ar52.2.1) rfl Ar52.2.2 hin52 hat52 (g := (mkF m 102 #[.val (.int x0), .val (.ref b1), .val (.ref b18), .val (.int (6 : Int32))] [(.int (6 : Int32)), (.ref b1)])) rfl rfl (hb hby at_102) _ k) ?_
                obtain ⟨cq53, kq53, q53a, q53b, q53c⟩ := isOf hZ e26 (E_RESERVED.ext O)
                obtain ⟨v53, _, ⟨T53, L53, k53, n53⟩, -, X53, ⟨Lc53, hQ53, l53, y53, z53⟩, st53⟩ := X26.virtualBack hx (y := (⟨"com/example/catchline/catchline/Kind", "namesSections", "()Z"⟩ : MethodName)) (z := (⟨"com/example/catchline/catchline/Kind", "namesSections", "()Z"⟩ : MethodName)) hown (mvT hZ (hw _ (List.mem_of_getElem? (i := 21) rfl))) (mvT hZ (hw _ (List.mem_of_getElem? (i := 22) rfl))) (notFace_of_selects (args := #[]) (mvT hZ (hw _ (List.mem_of_getElem? (i := 24) rfl)))) (mvT hZ (hw _ (List.mem_of_getElem? (i := 24) rfl))) (mvT hZ (hw _ (List.mem_of_getElem? (i := 23) rfl))) (by decide) (backOf (W := 0) (rm1 l Z a0 CX [] w_RESERVED (1 : Int32) h26 O (by simp [(O_RESERVED.ne O_SECTION (by decide))])) hZ (hw _ (List.mem_of_getElem? (i := 25) rfl)) (hw _ (List.mem_of_getElem? (i := 3) rfl)) (by decide) (by decide)) q53a q53c (g := (mkF m 103 #[.val (.int x0), .val (.ref b1), .val (.ref b18), .val (.int (6 : Int32))] [(.ref w_RESERVED)])) rfl (by rw [hml]; rfl) (Steps.refl _) (argsL := []) (rest := []) (lenOf pd_0 rfl) rfl (by show 2 * 0 + _ ≤ _; exact Nat.le_of_eq rfl) (hb hby at_103) (fun _ _ => ⟨rfl, e26, (by decide : 2 + 0 ≤ _), (by decide : 16 + 0 ≤ _)⟩)
                dsimp only [Pt.U, Pt.locs, Pt.cells, Pt.slots] at X53 l53 y53 z53 st53 hQ53
                subst l53 y53 z53
                obtain ⟨rfl, N53q, e53⟩ := hQ53
                have N := Fr.app N N53q
                refine own_tr (T' := T53) (F' := (mkF m 106 #[.val (.int x0), .val (.ref b1), .val (.ref b18), .val (.int (6 : Int32))] [(.int (1 : Int32))])) st53 ?_
                refine own_st (T' := T53) (F' := (mkF m 107 #[.val (.int x0), .val (.ref b1), .val (.ref b18), .val (.int (6 : Int32))] [(.ref b18), (.int (1 : Int32))])) (fun t k => XS.aloadN X53.here hx rfl (hb hby at_106) rfl rfl k) ?_
                refine own_st (T' := T53) (F' := (mkF m 108 #[.val (.int x0), .val (.ref b1), .val (.ref b18), .val (.int (6 : Int32))] [(.int (6 : Int32)), (.ref b18), (.int (1 : Int32))])) (fun t k => XS.iloadN X53.here hx rfl (hb hby at_107) rfl k) ?_
                have V54 := V_b18
                obtain ⟨cl54, Ar54, qa54, Sa54, Na54, Ha54, Ga54⟩ := V54
                have hin54 : ¬ ((6 : Int32) < 0 ∨ cl54.slots.size ≤ ((6 : Int32)).toNatClampNeg) := inb_of Sa54 ⟨by decide, by decide⟩
                have hat54 : cl54.slots[((6 : Int32)).toNatClampNeg]? = some (.int (1 : Int32)) := Has.at Ha54 hin54 rfl
                refine own_st (T' := T53) (F' := (mkF m 109 #[.val (.int x0), .val (.ref b1), .val (.ref b18), .val (.int (6 : Int32))] [(.int (1 : Int32)), (.int (1 : Int32))])) (fun t k => X53.baloadBooleans hx (j := (6 : Int32)) (v := (.int (1 : Int32))) (by rw [e53]; exact Ar54.1) (State.isArrayOf_alike hZ.alike Ar54.2.1) Ar54.2.2 hin54 hat54 (g := (mkF m 108 #[.val (.int x0), .val (.ref b1), .val (.ref b18), .val (.int (6 : Int32))] [(.int (6 : Int32)), (.ref b18), (.int (1 : Int32))])) rfl rfl (hb hby at_108) _ k) ?_
                refine own_st (T' := T53) (F' := (mkF m 112 #[.val (.int x0), .val (.ref b1), .val (.ref b18), .val (.int (6 : Int32))] [])) (fun t k => XS.icmpNo X53.here hx rfl (hb hby at_109) rfl (teq rfl).2 k) ?_
                refine own_st (T' := T53) (F' := (mkF m 113 #[.val (.int x0), .val (.ref b1), .val (.ref b18), .val (.int (6 : Int32))] [(.int (1 : Int32))])) (fun t k => XS.iconst X53.here hx rfl (hb hby at_112) k) ?_
                refine own_st (T' := T53) (F' := (mkF m 117 #[.val (.int x0), .val (.ref b1), .val (.ref b18), .val (.int (6 : Int32))] [(.int (1 : Int32))])) (fun t k => XS.goto X53.here hx rfl (pc0 := 113) (pc' := 117) rfl (hb hby at_113) (by decide) (by decide) k) ?_
                exact own_retN X53 hx (t := .boolean) Bd.returns (by simp) (by decide) (hb hby at_117) hlk (by show Q0 Z _ T53.heap _; rw [e53]; exact ⟨rfl, N⟩) (by decide) (by decide)
              · have hk7 : (x0 &&& (7 : Int32)) = (7 : Int32) := own_last8 _ (own_mask3 x0).1 (own_mask3 x0).2 hk0_27 hk1_31 hk2_35 hk3_39 hk4_43 hk5_47 hk6_51
                rw [hk7]
                refine own_st (T' := T26) (F' := (mkF m 101 #[.val (.int x0), .val (.ref b1), .val (.ref b18), .val (.int (7 : Int32))] [(.ref b1)])) (fun t k => XS.aloadN X26.here hx rfl (hb hby at_100) rfl rfl k) ?_
                refine own_st (T' := T26) (F' := (mkF m 102 #[.val (.int x0), .val (.ref b1), .val (.ref b18), .val (.int (7 : Int32))] [(.int (7 : Int32)), (.ref b1)])) (fun t k => XS.iloadN X26.here hx rfl (hb hby at_101) rfl k) ?_
                have V55 := V_b1
                obtain ⟨cl55, Ar55, qa55, Sa55, Na55, Ha55, Ga55⟩ := V55
                have hin55 : ¬ ((7 : Int32) < 0 ∨ cl55.slots.size ≤ ((7 : Int32)).toNatClampNeg) := inb_of Sa55 ⟨by decide, by decide⟩
                have hat55 : cl55.slots[((7 : Int32)).toNatClampNeg]? = some (.ref w_BACK) := Has.at Ha55 hin55 rfl
                refine own_st (T' := T26) (F' := (mkF m 103 #[.val (.int x0), .val (.ref b1), .val (.ref b18), .val (.int (7 : Int32))] [(.ref w_BACK)])) (fun t k => X26.aaload hx (j := (7 : Int32)) (v := (.ref w_BACK)) (by rw [e26]; exact Ar55.1) (State.isArrayOf_alike hZ.alike Ar55.2.1) rfl Ar55.2.2 hin55 hat55 (g := (mkF m 102 #[.val (.int x0), .val (.ref b1), .val (.ref b18), .val (.int (7 : Int32))] [(.int (7 : Int32)), (.ref b1)])) rfl rfl (hb hby at_102) _ k) ?_
                obtain ⟨cq56, kq56, q56a, q56b, q56c⟩ := isOf hZ e26 (E_BACK.ext O)
                obtain ⟨v56, _, ⟨T56, L56, k56, n56⟩, -, X56, ⟨Lc56, hQ56, l56, y56, z56⟩, st56⟩ := X26.virtualBack hx (y := (⟨"com/example/catchline/catchline/Kind", "namesSections", "()Z"⟩ : MethodName)) (z := (⟨"com/example/catchline/catchline/Kind", "namesSections", "()Z"⟩ : MethodName)) hown (mvT hZ (hw _ (List.mem_of_getElem? (i := 21) rfl))) (mvT hZ (hw _ (List.mem_of_getElem? (i := 22) rfl))) (notFace_of_selects (args := #[]) (mvT hZ (hw _ (List.mem_of_getElem? (i := 24) rfl)))) (mvT hZ (hw _ (List.mem_of_getElem? (i := 24) rfl))) (mvT hZ (hw _ (List.mem_of_getElem? (i := 23) rfl))) (by decide) (backOf (W := 0) (rm1 l Z a0 CX [] w_BACK (0 : Int32) h26 O (by simp [(O_BACK.ne O_SECTION (by decide)), (O_BACK.ne O_RESERVED (by decide))])) hZ (hw _ (List.mem_of_getElem? (i := 25) rfl)) (hw _ (List.mem_of_getElem? (i := 3) rfl)) (by decide) (by decide)) q56a q56c (g := (mkF m 103 #[.val (.int x0), .val (.ref b1), .val (.ref b18), .val (.int (7 : Int32))] [(.ref w_BACK)])) rfl (by rw [hml]; rfl) (Steps.refl _) (argsL := []) (rest := []) (lenOf pd_0 rfl) rfl (by show 2 * 0 + _ ≤ _; exact Nat.le_of_eq rfl) (hb hby at_103) (fun _ _ => ⟨rfl, e26, (by decide : 2 + 0 ≤ _), (by decide : 16 + 0 ≤ _)⟩)
                dsimp only [Pt.U, Pt.locs, Pt.cells, Pt.slots] at X56 l56 y56 z56 st56 hQ56
                subst l56 y56 z56
                obtain ⟨rfl, N56q, e56⟩ := hQ56
                have N := Fr.app N N56q
                refine own_tr (T' := T56) (F' := (mkF m 106 #[.val (.int x0), .val (.ref b1), .val (.ref b18), .val (.int (7 : Int32))] [(.int (0 : Int32))])) st56 ?_
                refine own_st (T' := T56) (F' := (mkF m 107 #[.val (.int x0), .val (.ref b1), .val (.ref b18), .val (.int (7 : Int32))] [(.ref b18), (.int (0 : Int32))])) (fun t k => XS.aloadN X56.here hx rfl (hb hby at_106) rfl rfl k) ?_
                refine own_st (T' := T56) (F' := (mkF m 108 #[.val (.int x0), .val (.ref b1), .val (.ref b18), .val (.int (7 : Int32))] [(.int (7 : Int32)), (.ref b18), (.int (0 : Int32))])) (fun t k => XS.iloadN X56.here hx rfl (hb hby at_107) rfl k) ?_
                have V57 := V_b18
                obtain ⟨cl57, Ar57, qa57, Sa57, Na57, Ha57, Ga57⟩ := V57
                have hin57 : ¬ ((7 : Int32) < 0 ∨ cl57.slots.size ≤ ((7 : Int32)).toNatClampNeg) := inb_of Sa57 ⟨by decide, by decide⟩
                have hat57 : cl57.slots[((7 : Int32)).toNatClampNeg]? = some (.int (0 : Int32)) := Has.at Ha57 hin57 rfl
                refine own_st (T' := T56) (F' := (mkF m 109 #[.val (.int x0), .val (.ref b1), .val (.ref b18), .val (.int (7 : Int32))] [(.int (0 : Int32)), (.int (0 : Int32))])) (fun t k => X56.baloadBooleans hx (j := (7 : Int32)) (v := (.int (0 : Int32))) (by rw [e56]; exact Ar57.1) (State.isArrayOf_alike hZ.alike Ar57.2.1) Ar57.2.2 hin57 hat57 (g := (mkF m 108 #[.val (.int x0), .val (.ref b1), .val (.ref b18), .val (.int (7 : Int32))] [(.int (7 : Int32)), (.ref b18), (.int (0 : Int32))])) rfl rfl (hb hby at_108) _ k) ?_
                refine own_st (T' := T56) (F' := (mkF m 112 #[.val (.int x0), .val (.ref b1), .val (.ref b18), .val (.int (7 : Int32))] [])) (fun t k => XS.icmpNo X56.here hx rfl (hb hby at_109) rfl (teq rfl).2 k) ?_
                refine own_st (T' := T56) (F' := (mkF m 113 #[.val (.int x0), .val (.ref b1), .val (.ref b18), .val (.int (7 : Int32))] [(.int (1 : Int32))])) (fun t k => XS.iconst X56.here hx rfl (hb hby at_112) k) ?_
                refine own_st (T' := T56) (F' := (mkF m 117 #[.val (.int x0), .val (.ref b1), .val (.ref b18), .val (.int (7 : Int32))] [(.int (1 : Int32))])) (fun t k => XS.goto X56.here hx rfl (pc0 := 113) (pc' := 117) rfl (hb hby at_113) (by decide) (by decide) k) ?_
                exact own_retN X56 hx (t := .boolean) Bd.returns (by simp) (by decide) (hb hby at_117) hlk (by show Q0 Z _ T56.heap _; rw [e56]; exact ⟨rfl, N⟩) (by decide) (by decide)
set_option maxRecDepth 65536 in
set_option maxHeartbeats 40000000 in
theorem comes_1 {Post : Tables → Env → Array Value → State → Outcome → State → Prop} (hpost : ∀ tb e args s v u, (limb_1_1.after args s (.returned v) u = true ∧ limb_1_2.after args s (.returned v) u = true ∧ True) → FrameEnd s (.returned v) u (Jvm.fieldLocs frame_1_writes args s ++ Jvm.arrayLocs frame_1_arrays args s ++ Jvm.staticLocs frame_1_statics s) 16 128 → Post tb e args s (.returned v) u) :
    ArmFor flags0 classFile x code maxLocals ret World_1 tables_1 room_1 Calls_1 rest_1 Pre_1 Post := by
  intro l hfl _ _ p e ha hc hk s m args below hf hA hF happ hP
  obtain ⟨hcalls, hrest, hpre⟩ := hP
  obtain ⟨-, -, -, hnamed, -, -, -, hat⟩ := (Spec.applies_iff hf).mp happ
  obtain ⟨hg, hn⟩ := and_e (Cond.before_iff.mp (show (Jvm.Cond.and given_1 narrow_1).before args s = true from hpre))
  obtain ⟨g0, g1⟩ := and_e hg
  obtain ⟨w0, rfl⟩ : ∃ w0 : Value, args = #[w0] := by
    have hs : args.size = 1 := by simpa [Cond.value, given_1] using g0
    obtain ⟨L⟩ := args
    match L, hs with
    | [w0], _ => exact ⟨w0, rfl⟩
  have hw := fun d (hd : d ∈ tables_1) => atoms_spec (ws := Jvm.Cond.code x code maxLocals ret :: tables_1) hat d (List.mem_cons_of_mem _ hd)
  have hfit : Fit s := fun {y c} hc i hi => by
    obtain ⟨ha, rfl⟩ := Array.getElem?_eq_some_iff.mp hc
    have q := List.all_eq_true.mp ((Array.all_eq_true_iff_forall_mem.mp hF) _ (Array.getElem_mem ha)) i (List.mem_range.mpr hi)
    simpa [Array.getElem?_eq_getElem hi] using q
  obtain ⟨i0, ei0⟩ := is_v g1
  obtain rfl : w0 = (.int i0) := Option.some.inj ei0
  obtain ⟨n0a, n0b⟩ := and_e hn
  obtain ⟨n1a, n1b⟩ := and_e n0b
  obtain ⟨n2a, n2b⟩ := and_e n1b
  obtain ⟨n3a, n3b⟩ := and_e n2b
  obtain ⟨n4a, n4b⟩ := and_e n3b
  obtain ⟨n5a, n5b⟩ := and_e n4b
  obtain ⟨n6a, n6b⟩ := and_e n5b
  obtain ⟨n7a, n7b⟩ := and_e n6b
  obtain ⟨n8a, n8b⟩ := and_e n7b
  obtain ⟨n9a, n9b⟩ := and_e n8b
  obtain ⟨n10a, n10b⟩ := and_e n9b
  obtain ⟨n11a, n11b⟩ := and_e n10b
  obtain ⟨n12a, n12b⟩ := and_e n11b
  obtain ⟨n13a, n13b⟩ := and_e n12b
  obtain ⟨n14a, n14b⟩ := and_e n13b
  obtain ⟨w_FRONT, v_FRONT⟩ := exa_v n0a
  have E_FRONT := Exa.start v_FRONT n0a
  have S_FRONT := Sta.start v_FRONT (Or.inr ⟨(hw _ (List.mem_of_getElem? (i := 3) rfl)), (hw _ (List.mem_of_getElem? (i := 4) rfl))⟩)
  obtain ⟨w_PART, v_PART⟩ := exa_v n1a
  have E_PART := Exa.start v_PART n1a
  have S_PART := Sta.start v_PART (Or.inr ⟨(hw _ (List.mem_of_getElem? (i := 3) rfl)), (hw _ (List.mem_of_getElem? (i := 7) rfl))⟩)
  obtain ⟨w_CHAPTER, v_CHAPTER⟩ := exa_v n2a
  have E_CHAPTER := Exa.start v_CHAPTER n2a
  have S_CHAPTER := Sta.start v_CHAPTER (Or.inr ⟨(hw _ (List.mem_of_getElem? (i := 3) rfl)), (hw _ (List.mem_of_getElem? (i := 9) rfl))⟩)
  obtain ⟨w_ARTICLE, v_ARTICLE⟩ := exa_v n3a
  have E_ARTICLE := Exa.start v_ARTICLE n3a
  have S_ARTICLE := Sta.start v_ARTICLE (Or.inr ⟨(hw _ (List.mem_of_getElem? (i := 3) rfl)), (hw _ (List.mem_of_getElem? (i := 11) rfl))⟩)
  obtain ⟨w_DIVISION, v_DIVISION⟩ := exa_v n4a
  have E_DIVISION := Exa.start v_DIVISION n4a
  have S_DIVISION := Sta.start v_DIVISION (Or.inr ⟨(hw _ (List.mem_of_getElem? (i := 3) rfl)), (hw _ (List.mem_of_getElem? (i := 13) rfl))⟩)
  obtain ⟨w_SECTION, v_SECTION⟩ := exa_v n5a
  have E_SECTION := Exa.start v_SECTION n5a
  have S_SECTION := Sta.start v_SECTION (Or.inr ⟨(hw _ (List.mem_of_getElem? (i := 3) rfl)), (hw _ (List.mem_of_getElem? (i := 15) rfl))⟩)
  obtain ⟨w_RESERVED, v_RESERVED⟩ := exa_v n6a
  have E_RESERVED := Exa.start v_RESERVED n6a
  have S_RESERVED := Sta.start v_RESERVED (Or.inr ⟨(hw _ (List.mem_of_getElem? (i := 3) rfl)), (hw _ (List.mem_of_getElem? (i := 17) rfl))⟩)
  obtain ⟨w_BACK, v_BACK⟩ := exa_v n7a
  have E_BACK := Exa.start v_BACK n7a
  have S_BACK := Sta.start v_BACK (Or.inr ⟨(hw _ (List.mem_of_getElem? (i := 3) rfl)), (hw _ (List.mem_of_getElem? (i := 19) rfl))⟩)
  have O_FRONT := Fld.start (own_fld_int v_FRONT n8a)
  have O_SECTION := Fld.start (own_fld_int v_SECTION n9a)
  have O_RESERVED := Fld.start (own_fld_int v_RESERVED n10a)
  have O_ARTICLE := Fld.start (own_fld_int v_ARTICLE n11a)
  have O_BACK := Fld.start (own_fld_int v_BACK n12a)
  have O_CHAPTER := Fld.start (own_fld_int v_CHAPTER n13a)
  have O_PART := Fld.start (own_fld_int v_PART n14a)
  have O_DIVISION := Fld.start (own_fld_int v_DIVISION n14b)
  have CX : Ctx s _ w_FRONT w_PART w_CHAPTER w_ARTICLE w_DIVISION w_SECTION w_RESERVED w_BACK := ⟨hw, S_FRONT, E_FRONT, S_PART, E_PART, S_CHAPTER, E_CHAPTER, S_ARTICLE, E_ARTICLE, S_DIVISION, E_DIVISION, S_SECTION, E_SECTION, S_RESERVED, E_RESERVED, S_BACK, E_BACK, O_FRONT, O_SECTION, O_RESERVED, O_ARTICLE, O_BACK, O_CHAPTER, O_PART, O_DIVISION, trivial⟩
  obtain ⟨n, o, h1, h2, h3, _, L, rfl, ⟨rfl, N⟩, hq⟩ := rm0 l s _ CX tables_1 i0 s.heap (own_ext_refl _)  p e ha hc hk s m _ below hf ((Spec.applies_iff_loose hf).mp happ).1 ⟨rfl, State.Warmed39.refl s, rfl⟩ trivial
  refine ⟨n, _, h1, h2, h3, hpost _ _ _ _ _ _ ⟨Cond.after_iff.mpr rfl, Cond.after_iff.mpr (eq_i res_at (Term.int_eval (1)) rfl), trivial⟩ ⟨hq.1, hq.2.1, (hq.2.2.sift fun y hy => Or.inr (N y hy)).mono (by decide) (by decide)⟩⟩
theorem main_1_1 : Claimed_1_1 := comes_1 fun _ _ _ _ _ _ h hF => ⟨h.1, hF⟩
theorem main_1_2 : Claimed_1_2 := comes_1 fun _ _ _ _ _ _ h hF => ⟨h.2.1, hF⟩
end Jvm.Pilot.@@N@@
namespace Jvm.Pilot.@@N@@
open Jvm Jvm.ClassFile Sem Op Lib Jvm.Free Jvm.Stand Jvm.Pilot.@@N@@.Jvm.D
/-! MADE BY PROGRAM (witnessworld.py) out of the Statement's table words and the real class files: 15 classes; the members and pool entries that the words name. The judged class is class 1, her method 1. -/
namespace start1
open Jvm.ClassFile
def u (s : String) : CpInfo := .utf8 (stringToUtf16 s)
/-- a pool by its gaps: so many unusable entries, then the entry; so many at the end -/
def gap : Nat → List CpInfo → List CpInfo
  | 0, r => r
  | n + 1, r => .unusable :: gap n r
def poolList (es : List (Nat × CpInfo)) (last : Nat) : List CpInfo := es.foldr (fun e r => gap e.1 (e.2 :: r)) (gap last [])
def pool (es : List (Nat × CpInfo)) (last : Nat) : Array CpInfo := ⟨poolList es last⟩
def fileOf (pool : Array CpInfo) (this : Nat) (attrs : Array Attribute := #[]) (ms : Array MethodInfo := #[]) (fl : Nat := 33) (sup : Nat := 0) (ifs : Array Nat := #[]) (fds : Array FieldInfo := #[]) : ClassFile where
  minorVersion := 0
  majorVersion := 65
  constantPool := pool
  accessFlags := fl
  thisClass := this
  superClass := sup
  interfaces := ifs
  fields := fds
  methods := ms
  attributes := attrs
def plain (name : String) (sup : Option ClassId) : Class where
  name := name
  kind := .ordinary
  loader := none
  accessFlags := 33
  super := sup
  interfaces := #[]
  cf := none
  fields := #[]
  methods := #[]
  instanceTypes := #[]
  staticTypes := #[]
  resolved := #[]
  callSites := []
  init := .initialized
  statics := none
  mirror := none

def pool0 : Array CpInfo := pool [(5, u "<init>"), (0, u "()V"), (1, .class_ 10), (1, u "java/lang/Object")] 113

def k0m0 : Method := { name := "<init>", desc := "()V", sig := { parameters := [], returnType := none }, accessFlags := 1, code := none }
/-- java/lang/Object -/
def k0 : Class := { plain "java/lang/Object" none with
  accessFlags := 33
  interfaces := #[]
  cf := some (fileOf pool0 8 #[] #[{ accessFlags := 1, nameIndex := 5, descriptorIndex := 6, attributes := #[] }] 33 0 #[] #[])
  fields := #[]
  methods := #[k0m0]
  instanceTypes := #[]
  staticTypes := #[]
  resolved := Array.replicate 124 none
  statics := none }

def pool1 : Array CpInfo := pool [(2, .class_ 4), (1, u "java/lang/Object"), (0, u "<init>"), (0, u "()V"), (0, .class_ 8), (0, u "com/example/catchline/catchline/Kind"), (0, .fieldref 7 10), (0, .nameAndType 11 12), (0, u "FRONT"), (0, u "Lcom/example/catchline/catchline/Kind;"), (0, .fieldref 7 14), (0, .nameAndType 15 12), (0, u "PART"), (0, .fieldref 7 17), (0, .nameAndType 18 12), (0, u "CHAPTER"), (0, .fieldref 7 20), (0, .nameAndType 21 12), (0, u "ARTICLE"), (0, .fieldref 7 23), (0, .nameAndType 24 12), (0, u "DIVISION"), (0, .fieldref 7 26), (0, .nameAndType 27 12), (0, u "SECTION"), (0, .fieldref 7 29), (0, .nameAndType 30 12), (0, u "RESERVED"), (0, .fieldref 7 32), (0, .nameAndType 33 12), (0, u "BACK"), (0, .methodref 7 35), (0, .nameAndType 36 37), (0, u "namesSections"), (0, u "()Z"), (0, .class_ 39), (0, u "com/example/catchline/catchline/KindNamesSectionsPinLaw"), (2, u "law"), (0, u "(I)Z")] 7

def k1m0 : Method := { name := "<init>", desc := "()V", sig := { parameters := [], returnType := none }, accessFlags := 1, code := none }
def k1c1 : Code := { maxStack := 4, maxLocals := 4, code := code, exceptionTable := #[], attributes := #[] }
def k1m1 : Method := { name := "law", desc := "(I)Z", sig := { parameters := [.int], returnType := some .boolean }, accessFlags := 9, code := some k1c1 }
/-- com/example/catchline/catchline/KindNamesSectionsPinLaw -/
def k1 : Class := { plain "com/example/catchline/catchline/KindNamesSectionsPinLaw" (some 0) with
  accessFlags := 49
  interfaces := #[]
  cf := some (fileOf pool1 38 #[] #[{ accessFlags := 1, nameIndex := 5, descriptorIndex := 6, attributes := #[] }, { accessFlags := 9, nameIndex := 42, descriptorIndex := 43, attributes := #[] }] 49 2 #[] #[])
  fields := #[]
  methods := #[k1m0, k1m1]
  instanceTypes := #[]
  staticTypes := #[]
  resolved := Array.replicate 51 none
  statics := none }

def pool2 : Array CpInfo := pool [(1, .class_ 2), (0, u "java/lang/constant/Constable"), (0, .class_ 4), (0, u "java/lang/Object")] 6

/-- java/lang/constant/Constable -/
def k2 : Class := { plain "java/lang/constant/Constable" (some 0) with
  accessFlags := 1537
  interfaces := #[]
  cf := some (fileOf pool2 1 #[] #[] 1537 3 #[] #[])
  fields := #[]
  methods := #[]
  instanceTypes := #[]
  staticTypes := #[]
  resolved := Array.replicate 11 none
  statics := none }

def pool3 : Array CpInfo := pool [(1, .class_ 2), (0, u "java/lang/Comparable"), (0, .class_ 4), (0, u "java/lang/Object")] 7

/-- java/lang/Comparable -/
def k3 : Class := { plain "java/lang/Comparable" (some 0) with
  accessFlags := 1537
  interfaces := #[]
  cf := some (fileOf pool3 1 #[] #[] 1537 3 #[] #[])
  fields := #[]
  methods := #[]
  instanceTypes := #[]
  staticTypes := #[]
  resolved := Array.replicate 12 none
  statics := none }

def pool4 : Array CpInfo := pool [(1, .class_ 2), (0, u "java/io/Serializable"), (0, .class_ 4), (0, u "java/lang/Object")] 2

/-- java/io/Serializable -/
def k4 : Class := { plain "java/io/Serializable" (some 0) with
  accessFlags := 1537
  interfaces := #[]
  cf := some (fileOf pool4 1 #[] #[] 1537 3 #[] #[])
  fields := #[]
  methods := #[]
  instanceTypes := #[]
  staticTypes := #[]
  resolved := Array.replicate 7 none
  statics := none }

def pool5 : Array CpInfo := pool [(2, .class_ 4), (1, u "java/lang/Enum"), (0, u "name"), (0, u "Ljava/lang/String;"), (2, u "ordinal"), (0, u "I"), (1, .class_ 14), (1, u "java/lang/Object"), (4, u "hash"), (86, .class_ 108), (1, u "java/lang/Enum$EnumDesc"), (2, .class_ 112), (0, u "java/lang/constant/Constable"), (0, .class_ 114), (0, u "java/lang/Comparable"), (0, .class_ 116), (0, u "java/io/Serializable")] 87

/-- java/lang/Enum -/
def k5 : Class := { plain "java/lang/Enum" (some 0) with
  accessFlags := 1057
  interfaces := #[2, 3, 4]
  cf := some (fileOf pool5 2 #[.nestMembers #[106]] #[] 1057 12 #[111, 113, 115] #[{ accessFlags := 18, nameIndex := 5, descriptorIndex := 6, attributes := #[] }, { accessFlags := 18, nameIndex := 9, descriptorIndex := 10, attributes := #[] }, { accessFlags := 2, nameIndex := 19, descriptorIndex := 10, attributes := #[] }])
  fields := #[{ name := "name", type := (.object "java/lang/String"), accessFlags := 18, slot := 0, constantValue := 0 }, { name := "ordinal", type := .int, accessFlags := 18, slot := 1, constantValue := 0 }, { name := "hash", type := .int, accessFlags := 2, slot := 2, constantValue := 0 }]
  methods := #[]
  instanceTypes := #[(.object "java/lang/String"), .int, .int]
  staticTypes := #[]
  resolved := Array.replicate 204 none
  statics := none }

def pool6 : Array CpInfo := pool [(1, .class_ 2), (0, u "com/example/catchline/catchline/Kind"), (2, u "FRONT"), (0, u "Lcom/example/catchline/catchline/Kind;"), (2, u "PART"), (2, u "CHAPTER"), (2, u "ARTICLE"), (2, u "DIVISION"), (0, .fieldref 1 20), (0, .nameAndType 21 6), (0, u "SECTION"), (0, .fieldref 1 23), (0, .nameAndType 24 6), (0, u "RESERVED"), (2, u "BACK"), (2, u "$VALUES"), (0, u "[Lcom/example/catchline/catchline/Kind;"), (6, .class_ 40), (1, u "java/lang/Enum"), (43, u "namesSections"), (0, u "()Z")] 5

def k6c0 : Code := { maxStack := 2, maxLocals := 1, code := prog_32_method_5_code, exceptionTable := #[], attributes := #[] }
def k6m0 : Method := { name := "namesSections", desc := "()Z", sig := { parameters := [], returnType := some .boolean }, accessFlags := 0, code := some k6c0 }
/-- com/example/catchline/catchline/Kind -/
def k6 : Class := { plain "com/example/catchline/catchline/Kind" (some 5) with
  accessFlags := 16433
  interfaces := #[]
  cf := some (fileOf pool6 1 #[] #[{ accessFlags := 0, nameIndex := 84, descriptorIndex := 85, attributes := #[] }] 16433 38 #[] #[{ accessFlags := 16409, nameIndex := 5, descriptorIndex := 6, attributes := #[] }, { accessFlags := 16409, nameIndex := 9, descriptorIndex := 6, attributes := #[] }, { accessFlags := 16409, nameIndex := 12, descriptorIndex := 6, attributes := #[] }, { accessFlags := 16409, nameIndex := 15, descriptorIndex := 6, attributes := #[] }, { accessFlags := 16409, nameIndex := 18, descriptorIndex := 6, attributes := #[] }, { accessFlags := 16409, nameIndex := 21, descriptorIndex := 6, attributes := #[] }, { accessFlags := 16409, nameIndex := 24, descriptorIndex := 6, attributes := #[] }, { accessFlags := 16409, nameIndex := 27, descriptorIndex := 6, attributes := #[] }, { accessFlags := 4122, nameIndex := 30, descriptorIndex := 31, attributes := #[] }])
  fields := #[{ name := "FRONT", type := (.object "com/example/catchline/catchline/Kind"), accessFlags := 16409, slot := 0, constantValue := 0 }, { name := "PART", type := (.object "com/example/catchline/catchline/Kind"), accessFlags := 16409, slot := 1, constantValue := 0 }, { name := "CHAPTER", type := (.object "com/example/catchline/catchline/Kind"), accessFlags := 16409, slot := 2, constantValue := 0 }, { name := "ARTICLE", type := (.object "com/example/catchline/catchline/Kind"), accessFlags := 16409, slot := 3, constantValue := 0 }, { name := "DIVISION", type := (.object "com/example/catchline/catchline/Kind"), accessFlags := 16409, slot := 4, constantValue := 0 }, { name := "SECTION", type := (.object "com/example/catchline/catchline/Kind"), accessFlags := 16409, slot := 5, constantValue := 0 }, { name := "RESERVED", type := (.object "com/example/catchline/catchline/Kind"), accessFlags := 16409, slot := 6, constantValue := 0 }, { name := "BACK", type := (.object "com/example/catchline/catchline/Kind"), accessFlags := 16409, slot := 7, constantValue := 0 }, { name := "$VALUES", type := (.array (.object "com/example/catchline/catchline/Kind")), accessFlags := 4122, slot := 8, constantValue := 0 }]
  methods := #[k6m0]
  instanceTypes := #[(.object "java/lang/String"), .int, .int]
  staticTypes := #[(.object "com/example/catchline/catchline/Kind"), (.object "com/example/catchline/catchline/Kind"), (.object "com/example/catchline/catchline/Kind"), (.object "com/example/catchline/catchline/Kind"), (.object "com/example/catchline/catchline/Kind"), (.object "com/example/catchline/catchline/Kind"), (.object "com/example/catchline/catchline/Kind"), (.object "com/example/catchline/catchline/Kind"), (.array (.object "com/example/catchline/catchline/Kind"))]
  resolved := Array.replicate 91 none
  statics := some 0 }

def pool7 : Array CpInfo := pool [(1, u "java/lang/Cloneable"), (0, .class_ 1), (0, u "java/lang/Object"), (0, .class_ 3)] 3

/-- java/lang/Cloneable -/
def k7 : Class := { plain "java/lang/Cloneable" (some 0) with
  accessFlags := 1537
  interfaces := #[]
  cf := some (fileOf pool7 2 #[] #[] 1537 4 #[] #[])
  fields := #[]
  methods := #[]
  instanceTypes := #[]
  staticTypes := #[]
  resolved := Array.replicate 8 none
  statics := none }

/-- the primitive boolean -/
def k8 : Class := { plain "boolean" none with kind := .primitive 'Z', accessFlags := 0x411 }
/-- [Z -/
def k9 : Class := { plain "[Z" (some 0) with kind := .array 8 .boolean, interfaces := #[7, 4], accessFlags := 1041 }

/-- the primitive byte -/
def k10 : Class := { plain "byte" none with kind := .primitive 'B', accessFlags := 0x411 }
/-- [B -/
def k11 : Class := { plain "[B" (some 0) with kind := .array 10 .byte, interfaces := #[7, 4], accessFlags := 1041 }

/-- the primitive int -/
def k12 : Class := { plain "int" none with kind := .primitive 'I', accessFlags := 0x411 }
/-- [I -/
def k13 : Class := { plain "[I" (some 0) with kind := .array 12 .int, interfaces := #[7, 4], accessFlags := 1041 }

/-- [Lcom/example/catchline/catchline/Kind; -/
def k14 : Class := { plain "[Lcom/example/catchline/catchline/Kind;" (some 0) with kind := .array 6 (.object "com/example/catchline/catchline/Kind"), interfaces := #[7, 4], accessFlags := 1041 }

def heap : Heap := #[{ cls := 6, slots := #[.ref 1, .ref 2, .ref 3, .ref 4, .ref 5, .ref 6, .ref 7, .ref 8, .null], vm := .statics 6 },
  { cls := 6, slots := #[.null, .int 0, .int 0], vm := .none },
  { cls := 6, slots := #[.null, .int 1, .int 0], vm := .none },
  { cls := 6, slots := #[.null, .int 2, .int 0], vm := .none },
  { cls := 6, slots := #[.null, .int 3, .int 0], vm := .none },
  { cls := 6, slots := #[.null, .int 4, .int 0], vm := .none },
  { cls := 6, slots := #[.null, .int 5, .int 0], vm := .none },
  { cls := 6, slots := #[.null, .int 6, .int 0], vm := .none },
  { cls := 6, slots := #[.null, .int 7, .int 0], vm := .none }]
def classes : Array Class := #[k0, k1, k2, k3, k4, k5, k6, k7, k8, k9, k10, k11, k12, k13, k14]
def interned : List (Array UInt16 × Addr) := []
def slotsUsed : Nat := 33
def theMethod : MethodId := ⟨1, 1⟩
def args0 : Array Value := #[.int 5]
def aboutOver (below : List Frame) : State where
  vm := { classes := classes, interned := interned.toArray }
  heap := heap
  slotsUsed := slotsUsed
  threads := #[{ frames := .invoking theMethod args0 :: below }]
def below0 : List Frame := [.native { method := ⟨0, 0⟩, args := #[] }]
def about1 : State := aboutOver below0
def p0 : Program := .bare "" "" ""
def e0 : Env := launch0.env 0 0 0
theorem w_frames : about1.frames = Frame.invoking theMethod args0 :: below0 := rfl
set_option maxRecDepth 65536 in
theorem w_args : argsFit about1.vm theMethod args0 = true := by decide +kernel
set_option maxRecDepth 65536 in
theorem w_heap : heapFits about1 = true := by decide +kernel
set_option maxRecDepth 65536 in
theorem w_runnable : about1.curStatus? = some .runnable := by decide +kernel
set_option maxRecDepth 65536 in
theorem w_alone : about1.alone = true := by decide +kernel
set_option maxRecDepth 65536 in
theorem w_named : about1.methodNamed? x = some theMethod := by decide +kernel
set_option maxRecDepth 65536 in
theorem w_hears : about1.hears theMethod below0 = true := by decide +kernel
set_option maxRecDepth 65536 in
theorem w_ripe : about1.ripe theMethod args0 below0 = true := by decide +kernel
theorem w_running : about1.status = .running := rfl
set_option maxRecDepth 65536 in
theorem w_room : about1.hasRoom e0.platform room_1 = true :=
  launch0.hasRoom_least _ room_1 (by decide +kernel) (by decide +kernel) (by decide +kernel) (by decide +kernel) (by decide +kernel) (by decide +kernel)
theorem allAtoms_all (ts : List Jvm.Cond) (a : Array Jvm.Value) (st : Jvm.State) : (allAtoms ts).before a st = ts.all (fun c => c.before a st) := by
  induction ts with
  | nil => rfl
  | cons c t ih =>
    show (Jvm.Cond.and c (allAtoms t)).before a st = _
    rw [Jvm.Cond.before_and, ih, List.all_cons]
def words1 : List Jvm.Cond := Jvm.Cond.code x code maxLocals ret :: tables_1
/-- a 'code' word, met by the world's own term for the bytes: nothing is compared byte by byte -/
theorem code_word {y : MethodName} {bytes : ByteArray} {mx : Nat} {rt : Option FieldType} {a : Array Value} {s : State} {m : MethodId} {meth : Method} {c : Code} (h1 : s.methodNamed? y = some m) (h2 : s.vm.method? m = some meth) (h3 : meth.code = some c) (h4 : c.code = bytes)
    (h5 : (c.maxLocals == mx && c.exceptionTable.isEmpty && decide (c.maxStack ≤ mostOperands) && decide (meth.sig.returnType = rt) && !meth.locks && decide (parseMethodDescriptor y.desc = some meth.sig)) = true) : (Jvm.Cond.code y bytes mx rt).before a s = true := by
  simp only [Bool.and_eq_true, beq_iff_eq, Bool.not_eq_true', decide_eq_true_eq] at h5
  obtain ⟨⟨⟨⟨⟨g1, g2⟩, g3⟩, g4⟩, g5⟩, g6⟩ := h5
  simp [Cond.before, Cond.holds, Cond.value, h1, h2, h3, h4, g1, g2, g3, g4, g5, g6]
def isCode : Jvm.Cond → Bool
  | .code _ _ _ _ => true
  | _ => false
theorem all_split {L : List Jvm.Cond} {P : Jvm.Cond → Bool} (h1 : L.all (fun c => isCode c || P c) = true) (h2 : ∀ c ∈ L.filter isCode, P c = true) : L.all P = true := by
  refine List.all_eq_true.mpr fun c hc => ?_
  have h := List.all_eq_true.mp h1 c hc
  rcases Bool.eq_false_or_eq_true (isCode c) with hi | hi
  · exact h2 c (List.mem_filter.mpr ⟨hc, hi⟩)
  · simpa [hi] using h
set_option maxRecDepth 65536 in
theorem w_c0 : (Jvm.Cond.code x code maxLocals ret).before args0 about1 = true := code_word (m := ⟨1, 1⟩) (meth := k1m1) (c := k1c1) (by decide +kernel) rfl rfl rfl (by decide +kernel)
set_option maxRecDepth 65536 in
theorem w_c1 : (Jvm.Cond.code ({ cls := "com/example/catchline/catchline/Kind", name := "namesSections", desc := "()Z" } : Jvm.MethodName) prog_32_method_5_code (1 : Nat) (Option.some Jvm.ClassFile.FieldType.boolean)).before args0 about1 = true := code_word (m := ⟨6, 0⟩) (meth := k6m0) (c := k6c0) (by decide +kernel) rfl rfl rfl (by decide +kernel)
def codes1 : List Jvm.Cond := [Jvm.Cond.code x code maxLocals ret, Jvm.Cond.code ({ cls := "com/example/catchline/catchline/Kind", name := "namesSections", desc := "()Z" } : Jvm.MethodName) prog_32_method_5_code (1 : Nat) (Option.some Jvm.ClassFile.FieldType.boolean)]
set_option maxRecDepth 65536 in
theorem codes_eq : words1.filter isCode = codes1 := rfl
theorem w_codes : ∀ c ∈ words1.filter isCode, c.before args0 about1 = true := by
  rw [codes_eq]
  intro c hc
  simp only [codes1, List.mem_cons, List.not_mem_nil, or_false] at hc
  rcases hc with rfl | rfl
  · exact w_c0
  · exact w_c1
set_option maxRecDepth 65536 in
theorem w_t1 : (words1.take 24).all (fun c => isCode c || c.before args0 about1) = true := by decide +kernel
set_option maxRecDepth 65536 in
theorem w_t2 : (words1.drop 24).all (fun c => isCode c || c.before args0 about1) = true := by decide +kernel
theorem w_tables : (allAtoms (Jvm.Cond.code x code maxLocals ret :: tables_1)).before args0 about1 = true := by
  rw [allAtoms_all]
  show words1.all (fun c => c.before args0 about1) = true
  refine all_split ?_ w_codes
  rw [← List.take_append_drop 24 words1, List.all_append, w_t1, w_t2]
  rfl
set_option maxRecDepth 65536 in
theorem w_case : (Jvm.Cond.and given_1 narrow_1).before args0 about1 = true := by decide +kernel
theorem w_applies : (headSpec (Jvm.Cond.code x code maxLocals ret :: tables_1) room_1).applies x e0.platform about1 = true :=
  (Spec.applies_iff w_frames).mpr ⟨w_running, w_runnable, w_alone, w_named, w_hears, w_ripe, w_room, w_tables⟩
theorem atStart : AtStart classFile x code maxLocals ret World_1 tables_1 room_1 Calls_1 rest_1 Pre_1 launch0 p0 e0 about1 theMethod args0 below0 :=
  ⟨lists_1, trivial, launch0.admits_env _ _ _, launch0.least_env, fairChoices_fair.cas, fairChoices_fair.clock, w_frames, w_args, w_heap, w_applies, trivial, trivial, w_case⟩
end start1
theorem witness_1 : WitnessClaimed_1 := ⟨start1.p0, start1.e0, start1.about1, start1.theMethod, start1.args0, start1.below0, start1.atStart⟩
end Jvm.Pilot.@@N@@
