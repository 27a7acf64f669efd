import JvmDerived
import JvmDerived.Pilot.@@N@@Statement
import JvmDerived.Pilot.@@N@@Code
set_option linter.unusedVariables false
set_option linter.unusedSimpArgs false
namespace Jvm.Pilot.@@N@@
open Jvm Jvm.ClassFile Sem Op Lib Jvm.Free Jvm.Stand Jvm.LawKit Jvm.RoadKit Bundle Jvm.Pilot.@@N@@.Jvm.D
/-! own_Done: from frame F on top of T the run comes to its end, and R holds there -/
def own_Done (tb : Tables) (e : Env) (below : List Frame) (R : Outcome → State → Prop) (T : State) (F : JFrame) : Prop :=
  ∃ s₂ o, Steps tb e below (T.setTop F) s₂ ∧ s₂.status = .running ∧ Ended s₂ below o ∧ R o s₂
def own_R (Qq : Option Value → Heap → List Loc → Prop) (s : State) (C S : Nat) : Outcome → State → Prop :=
  fun o U => ∃ v L, o = .returned v ∧ Qq v U.heap L ∧ FrameEnd s o U L C S
def own_RW (Qq : Option Value → Heap → List Loc → Prop) (s : State) (C S : Nat) : Outcome → State → Prop :=
  fun o U => ∃ v L, o = .returned v ∧ Qq v U.heap L ∧ ReturnedEndW s o U L C S
theorem own_st {tb : Tables} {e : Env} {below : List Frame} {R : Outcome → State → Prop} {T T' : State} {F F' : JFrame} (k : ∀ t, Steps tb e below (T'.setTop F') t → Steps tb e below (T.setTop F) t) (d : own_Done tb e below R T' F') : own_Done tb e below R T F := by
  obtain ⟨a, o, h1, h2⟩ := d
  exact ⟨a, o, k a h1, h2⟩
theorem own_tr {tb : Tables} {e : Env} {below : List Frame} {R : Outcome → State → Prop} {T T' : State} {F F' : JFrame} (k : Steps tb e below (T.setTop F) (T'.setTop F')) (d : own_Done tb e below R T' F') : own_Done tb e below R T F := by
  obtain ⟨a, o, h1, h2⟩ := d
  exact ⟨a, o, k.trans h1, h2⟩
section Own
variable {p : Program} {l : Launch} {e : Env} {Rm : Room} {s : State} {m : MethodId} {args : Array Value} {below : List Frame} {meth : Method} {c : Code} {T : State} {locs : List Loc} {cells slots : Nat}
theorem own_ret (X : Stand p l e Rm s m args below meth c T locs cells slots) (hx : p.tables.exec = Jvm.exec) {pc : Nat} {Ls : Array Slot} {w : Value} {t : FieldType} {i : Instr} {rest : List Value} (hret : meth.sig.returnType = some t) (hn : narrow t w = w)
    (hi : (i = .ireturn ∧ (t = .int ∨ t = .boolean ∨ t = .byte ∨ t = .char ∨ t = .short) ∧ ∃ z, w = .int z) ∨ (i = .lreturn ∧ t = .long ∧ ∃ z, w = .long z) ∨ (i = .dreturn ∧ t = .double ∧ ∃ z, w = .double z) ∨ (i = .freturn ∧ t = .float ∧ ∃ z, w = .float z) ∨ (i = .areturn ∧ t.isReference = true ∧ w.isRef = true))
    (hd : decode c.code pc = .ok (i, 1)) (hlk : meth.locks = false) {Qq : Option Value → Heap → List Loc → Prop} {C S : Nat} (hQ : Qq (some w) T.heap locs) (hc : cells ≤ C) (hs : slots ≤ S) :
    own_Done p.tables e below (own_R Qq s C S) T (mkF m pc Ls (w :: rest)) := by
  obtain ⟨fs, hr, hrun, hended, hW, hsame⟩ := X.leave (v := some w) (fun h => by rw [hret] at h; cases h) hlk
  exact ⟨_, _, retOut X hx hret hn hi hd hr, hrun, hended, _, _, rfl, hQ, ⟨_, rfl⟩, hW, hsame.mono hc hs⟩
theorem own_retI (X : Stand p l e Rm s m args below meth c T locs cells slots) (hx : p.tables.exec = Jvm.exec) {pc : Nat} {Ls : Array Slot} {z : Int32} {rest : List Value} (hret : meth.sig.returnType = some .int) (hd : decode c.code pc = .ok (.ireturn, 1)) (hlk : meth.locks = false)
    {Qq : Option Value → Heap → List Loc → Prop} {C S : Nat} (hQ : Qq (some (.int z)) T.heap locs) (hc : cells ≤ C) (hs : slots ≤ S) : own_Done p.tables e below (own_R Qq s C S) T (mkF m pc Ls (.int z :: rest)) :=
  own_ret X hx hret rfl (Or.inl ⟨rfl, Or.inl rfl, _, rfl⟩) hd hlk hQ hc hs
theorem own_retN (X : Stand p l e Rm s m args below meth c T locs cells slots) (hx : p.tables.exec = Jvm.exec) {pc : Nat} {Ls : Array Slot} {z : Int32} {t : FieldType} {rest : List Value} (hret : meth.sig.returnType = some t) (ht : t = .boolean ∨ t = .byte ∨ t = .char ∨ t = .short) (hn : narrow t (.int z) = .int z) (hd : decode c.code pc = .ok (.ireturn, 1)) (hlk : meth.locks = false)
    {Qq : Option Value → Heap → List Loc → Prop} {C S : Nat} (hQ : Qq (some (.int z)) T.heap locs) (hc : cells ≤ C) (hs : slots ≤ S) : own_Done p.tables e below (own_R Qq s C S) T (mkF m pc Ls (.int z :: rest)) :=
  own_ret X hx hret hn (Or.inl ⟨rfl, Or.inr ht, _, rfl⟩) hd hlk hQ hc hs
theorem own_retJ (X : Stand p l e Rm s m args below meth c T locs cells slots) (hx : p.tables.exec = Jvm.exec) {pc : Nat} {Ls : Array Slot} {z : Int64} {rest : List Value} (hret : meth.sig.returnType = some .long) (hd : decode c.code pc = .ok (.lreturn, 1)) (hlk : meth.locks = false)
    {Qq : Option Value → Heap → List Loc → Prop} {C S : Nat} (hQ : Qq (some (.long z)) T.heap locs) (hc : cells ≤ C) (hs : slots ≤ S) : own_Done p.tables e below (own_R Qq s C S) T (mkF m pc Ls (.long z :: rest)) :=
  own_ret X hx hret rfl (Or.inr (Or.inl ⟨rfl, rfl, _, rfl⟩)) hd hlk hQ hc hs
theorem own_narrow {t : FieldType} {v : Value} (h : v.isRef = true) : narrow t v = v := by
  rcases ref_cases h with rfl | ⟨a, rfl⟩ <;> cases t <;> rfl
theorem own_retA (X : Stand p l e Rm s m args below meth c T locs cells slots) (hx : p.tables.exec = Jvm.exec) {pc : Nat} {Ls : Array Slot} {w : Value} {t : FieldType} {rest : List Value} (hret : meth.sig.returnType = some t) (ht : t.isReference = true) (hw : w.isRef = true) (hd : decode c.code pc = .ok (.areturn, 1)) (hlk : meth.locks = false)
    {Qq : Option Value → Heap → List Loc → Prop} {C S : Nat} (hQ : Qq (some w) T.heap locs) (hc : cells ≤ C) (hs : slots ≤ S) : own_Done p.tables e below (own_R Qq s C S) T (mkF m pc Ls (w :: rest)) :=
  own_ret X hx hret (own_narrow hw) (Or.inr (Or.inr (Or.inr (Or.inr ⟨rfl, ht, hw⟩)))) hd hlk hQ hc hs
theorem own_retV (X : Stand p l e Rm s m args below meth c T locs cells slots) (hx : p.tables.exec = Jvm.exec) {pc : Nat} {Ls : Array Slot} (hret : meth.sig.returnType = none) (hd : decode c.code pc = .ok (.return_, 1)) (hlk : meth.locks = false)
    {Qq : Option Value → Heap → List Loc → Prop} {C S : Nat} (hQ : Qq none T.heap locs) (hc : cells ≤ C) (hs : slots ≤ S) : own_Done p.tables e below (own_R Qq s C S) T (mkF m pc Ls []) := by
  obtain ⟨fs, hr, hrun, hended, hW, hsame⟩ := X.leave (v := none) (fun _ => rfl) hlk
  exact ⟨_, _, X.returnOut hx hret hd hr, hrun, hended, _, _, rfl, hQ, ⟨_, rfl⟩, hW, hsame.mono hc hs⟩
theorem own_retW {vm₁ : Vm} (X : Stand p l e Rm (s.setVm vm₁) m args below meth c T locs cells slots) (hx : p.tables.exec = Jvm.exec) {pc : Nat} {Ls : Array Slot} {w : Value} {t : FieldType} {i : Instr} {rest : List Value} (hret : meth.sig.returnType = some t) (hn : narrow t w = w)
    (hi : (i = .ireturn ∧ (t = .int ∨ t = .boolean ∨ t = .byte ∨ t = .char ∨ t = .short) ∧ ∃ z, w = .int z) ∨ (i = .lreturn ∧ t = .long ∧ ∃ z, w = .long z) ∨ (i = .dreturn ∧ t = .double ∧ ∃ z, w = .double z) ∨ (i = .freturn ∧ t = .float ∧ ∃ z, w = .float z) ∨ (i = .areturn ∧ t.isReference = true ∧ w.isRef = true))
    {ks : Nat} (hS : s.Since vm₁ ks) (hk : ks ≤ T.heap.size) (hd : decode c.code pc = .ok (i, 1)) (hlk : meth.locks = false) {Qq : Option Value → Heap → List Loc → Prop} {C S : Nat} (hQ : Qq (some w) T.heap locs) (hc : cells ≤ C) (hs : slots ≤ S) :
    own_Done p.tables e below (own_RW Qq s C S) T (mkF m pc Ls (w :: rest)) := by
  obtain ⟨fs, hr, hrun, hended, hW⟩ := X.leaveW hS hk (v := some w) (fun h => by rw [hret] at h; cases h) hlk
  exact ⟨_, _, retOut X hx hret hn hi hd hr, hrun, hended, _, _, rfl, hQ, hW.1, hW.2.1, hW.2.2.1, hW.2.2.2.mono hc hs⟩
theorem own_retIW {vm₁ : Vm} (X : Stand p l e Rm (s.setVm vm₁) m args below meth c T locs cells slots) (hx : p.tables.exec = Jvm.exec) {pc : Nat} {Ls : Array Slot} {z : Int32} {rest : List Value} (hret : meth.sig.returnType = some .int) {ks : Nat} (hS : s.Since vm₁ ks) (hk : ks ≤ T.heap.size) (hd : decode c.code pc = .ok (.ireturn, 1)) (hlk : meth.locks = false)
    {Qq : Option Value → Heap → List Loc → Prop} {C S : Nat} (hQ : Qq (some (.int z)) T.heap locs) (hc : cells ≤ C) (hs : slots ≤ S) : own_Done p.tables e below (own_RW Qq s C S) T (mkF m pc Ls (.int z :: rest)) :=
  own_retW X hx hret rfl (Or.inl ⟨rfl, Or.inl rfl, _, rfl⟩) hS hk hd hlk hQ hc hs
theorem own_retNW {vm₁ : Vm} (X : Stand p l e Rm (s.setVm vm₁) m args below meth c T locs cells slots) (hx : p.tables.exec = Jvm.exec) {pc : Nat} {Ls : Array Slot} {z : Int32} {t : FieldType} {rest : List Value} (hret : meth.sig.returnType = some t) (ht : t = .boolean ∨ t = .byte ∨ t = .char ∨ t = .short) (hn : narrow t (.int z) = .int z) {ks : Nat} (hS : s.Since vm₁ ks) (hk : ks ≤ T.heap.size) (hd : decode c.code pc = .ok (.ireturn, 1)) (hlk : meth.locks = false)
    {Qq : Option Value → Heap → List Loc → Prop} {C S : Nat} (hQ : Qq (some (.int z)) T.heap locs) (hc : cells ≤ C) (hs : slots ≤ S) : own_Done p.tables e below (own_RW Qq s C S) T (mkF m pc Ls (.int z :: rest)) :=
  own_retW X hx hret hn (Or.inl ⟨rfl, Or.inr ht, _, rfl⟩) hS hk hd hlk hQ hc hs
theorem own_retJW {vm₁ : Vm} (X : Stand p l e Rm (s.setVm vm₁) m args below meth c T locs cells slots) (hx : p.tables.exec = Jvm.exec) {pc : Nat} {Ls : Array Slot} {z : Int64} {rest : List Value} (hret : meth.sig.returnType = some .long) {ks : Nat} (hS : s.Since vm₁ ks) (hk : ks ≤ T.heap.size) (hd : decode c.code pc = .ok (.lreturn, 1)) (hlk : meth.locks = false)
    {Qq : Option Value → Heap → List Loc → Prop} {C S : Nat} (hQ : Qq (some (.long z)) T.heap locs) (hc : cells ≤ C) (hs : slots ≤ S) : own_Done p.tables e below (own_RW Qq s C S) T (mkF m pc Ls (.long z :: rest)) :=
  own_retW X hx hret rfl (Or.inr (Or.inl ⟨rfl, rfl, _, rfl⟩)) hS hk hd hlk hQ hc hs
theorem own_mono (X : Stand p l e Rm s m args below meth c T locs cells slots) {C S : Nat} (hc : cells ≤ C) (hs : slots ≤ S) : Stand p l e Rm s m args below meth c T locs C S :=
  { X with same := X.same.mono hc hs }
end Own
theorem own_cat1 {v : Value} (h : v.isRef = true) : v.category = 1 := by rcases ref_cases h with rfl | ⟨a, rfl⟩ <;> rfl
theorem own_fits {t : FieldType} {v : Value} (ht : t.isReference = true) (h : v.isRef = true) : fits t v = true := by rcases ref_cases h with rfl | ⟨a, rfl⟩ <;> cases t <;> first | rfl | cases ht
theorem own_nb {z : Int32} (h : z = 0 ∨ z = 1) : narrow .boolean (.int z) = .int z := by rcases h with rfl | rfl <;> rfl
theorem own_fb {z : Int32} (h : z = 0 ∨ z = 1) : fits .boolean (.int z) = true := by rcases h with rfl | rfl <;> rfl
theorem own_ext_refl (h : Heap) : Ext h h := ⟨Nat.le_refl _, fun _ _ q => q⟩
theorem own_ext_trans {h h' h2 : Heap} (A : Ext h h') (B : Ext h' h2) : Ext h h2 := ⟨Nat.le_trans A.1 B.1, fun a c q => B.2 a c (A.2 a c q)⟩
theorem own_O_wr {Z : State} {h h' : Heap} {a : Addr} {sl : Nat} {v : Value} (A : Ext Z.heap h) (B : Wr h h' a sl v) (q : Z.heap.size ≤ a) : Ext Z.heap h' := (Old.wr (⟨rfl, A⟩ : Old Z Z.heap.size h) B q).2
theorem own_O_keep {Z : State} {h h' : Heap} {ws : List Addr} (A : Ext Z.heap h) (B : Keep h h' ws) (q : ∀ a ∈ ws, Z.heap.size ≤ a) : Ext Z.heap h' := (Old.keep (⟨rfl, A⟩ : Old Z Z.heap.size h) B q).2
theorem own_eq_int {args : Array Value} {s : State} {t : Term} {k : Int32} (h : (Jvm.Cond.eq t (Term.int k)).value args s none s [] = some true) : t.eval args s none [] s = some (.int k) := by
  obtain ⟨u, v, h1, h2, h3, h4⟩ := cmp_v (Or.inl h)
  have h5 : v = .int k := (Option.some.inj h2).symm
  subst h5
  obtain ⟨z, rfl⟩ := h4
  rw [h1]
  simp only [Jvm.Cond.value, h1, h2, Option.some.injEq, decide_eq_true_eq] at h
  rw [h]
theorem own_fld_int {args : Array Value} {s : State} {t : Term} {C n d : String} {a : Addr} {k : Int32} (ht : t.eval args s none [] s = some (.ref a)) (h : (Jvm.Cond.eq (Term.field t C n d) (Term.int k)).value args s none s [] = some true) : s.fieldOf? a C n d = some (.int k) :=
  (fld_at ht).symm.trans (own_eq_int h)
theorem own_eq_ref {args : Array Value} {s : State} {t u : Term} {a : Addr} (h : (Jvm.Cond.eq t u).value args s none s [] = some true) (hu : u.eval args s none [] s = some (.ref a)) : t.eval args s none [] s = some (.ref a) := by
  obtain ⟨x1, y1, h1, h2, h3, h4⟩ := cmp_v (Or.inl h)
  obtain rfl : y1 = .ref a := Option.some.inj (h2.symm.trans hu)
  have hr : x1.isRef = true := by cases x1 <;> first | rfl | (simp [Kin] at h3; done) | exact h3.1
  have e := gotT (eq_R h1 h2 hr rfl) h
  rw [h1, e]
theorem own_len {args : Array Value} {s : State} {t : Term} {a : Addr} {cl : Cell} {n : Int32} (h : (Term.length t).eval args s none [] s = some (.int n)) (ht : t.eval args s none [] s = some (.ref a)) (hc : s.heap[a]? = some cl) : cl.slots.size < 2 ^ 31 ∧ cl.slots.size.toInt32 = n := by
  obtain ⟨a', cell, e1, e2, e3⟩ := Term.length_spec h
  cases ht.symm.trans e1
  cases hc.symm.trans (State.arrayAt?_spec e2).1
  by_cases q : cl.slots.size < 2 ^ 31
  · exact ⟨q, (Value.int.inj e3).symm⟩
  · simp [Term.eval, ht, e2, q] at h
theorem own_initFor {args : Array Value} {s : State} {C n d : String} (h1 : (Jvm.Cond.initializedFor C n d).before args s = true) (h2 : (Jvm.Cond.laysStatic C n d).before args s = true) : (Jvm.Cond.initialized C).before args s = true := by
  obtain ⟨c, k, i, f, a, cell, q1, q2, -⟩ := Cond.laysStatic_spec h2
  have q3 := Cond.initializedFor_spec q2 h1
  have q4 := State.fieldFound?_class q2
  simp [Cond.before, Cond.holds, Cond.value, q1, q4, q3]
theorem own_ns_root {Z : State} {a0 : Array Value} {Ob K : String} {n : Nat} (w : (Jvm.Cond.noSuperclass Ob).before a0 Z = true) (wk : (Jvm.Cond.instantiable K n).before a0 Z = true) (hn : Ob ≠ K) : NS Z Ob K := by
  obtain ⟨c, k, h1, h2, h3, -, -⟩ := Cond.noSuperclass_spec w
  obtain ⟨t, k2, g1, -⟩ := Cond.instantiable_spec wk
  have ne := ids_ne h1 g1 hn
  refine ⟨c, t, h1, g1, fun fuel => ?_⟩
  cases fuel with
  | zero => rfl
  | succ f => simp [Vm.isSubclassAux, ne, h2, h3]
theorem own_ns_no {Z : State} {a0 : Array Value} {C Sp K : String} {n : Nat} (w : (Jvm.Cond.superclass C Sp).before a0 Z = true) (wk : (Jvm.Cond.instantiable K n).before a0 Z = true) (ns : NS Z C K) (hn : C ≠ K) : ∃ c t, Z.vm.findClass C = some c ∧ Z.vm.findClass K = some t ∧ Z.vm.assignable c t = false := by
  obtain ⟨c, t, h0, g0, n3⟩ := ns
  obtain ⟨p, k, kp, h1, h2, h3, h4, h5, -, h7⟩ := Cond.superclass_spec h0 w
  obtain ⟨t', k', g1, g2, g3, g4, -⟩ := Cond.instantiable_spec wk
  cases g0.symm.trans g1
  have g5 : k'.isInterface = false := by
    simp only [Bool.or_eq_false_iff] at g4
    exact g4.1
  have ne := ids_ne h0 g0 hn
  refine ⟨c, t, h0, g0, ?_⟩
  show Z.vm.assignableAux (255 + 1) c t = false
  simp [Vm.assignableAux, ne, h2, g2, h5, g3, g5, Vm.isSubclass, n3]
theorem own_ext_keep {h h' : Heap} (K : Keep h h' []) : Ext h h' := ⟨K.1, fun a c q => K.2.1 a c q (fun z => nomatch z)⟩
theorem own_sub_at {args : Array Value} {first s : State} {o : Option Outcome} {idx : List Nat} {t u : Term} {v w : Int32} (ha : t.eval args first o idx s = some (.int v)) (hb : u.eval args first o idx s = some (.int w)) : (Term.sub t u).eval args first o idx s = some (.int (v - w)) := by simp [Term.eval, ha, hb]
def own_Bx (Z : State) (h : Heap) (w : Value) (b q : Int32) : Prop := (w = .null ∧ b = 1) ∨ (b = 0 ∧ ∃ r : Addr, w = .ref r ∧ Exa Z h r "java/lang/Integer" ∧ Fld Z h r "java/lang/Integer" "value" "I" (.int q))
theorem own_Bx.ext {Z : State} {h h' : Heap} {w : Value} {b q : Int32} (B : own_Bx Z h w b q) (E : Ext h h') : own_Bx Z h' w b q := by
  rcases B with B | ⟨e, r, rfl, X, F⟩
  · exact Or.inl B
  · exact Or.inr ⟨e, r, rfl, X.ext E, F.ext E⟩
theorem own_Bx.keep {Z : State} {h h' : Heap} {w : Value} {b q : Int32} {a : Addr} {C : String} (B : own_Bx Z h w b q) (K : Keep h h' [a]) (X' : Exa Z h a C) (hn : "java/lang/Integer" ≠ C) : own_Bx Z h' w b q := by
  rcases B with B | ⟨e, r, rfl, X, F⟩
  · exact Or.inl B
  · exact Or.inr ⟨e, r, rfl, X.keep K, F.keep K (ninS (ne_exa X X' hn) nin0)⟩
theorem own_Bx.isRef {Z : State} {h : Heap} {w : Value} {b q : Int32} (B : own_Bx Z h w b q) : w.isRef = true := by
  rcases B with ⟨rfl, -⟩ | ⟨-, r, rfl, -, -⟩ <;> rfl
def own_eqv (b1 x1 b2 x2 : Int32) : Int32 := if b1 = 0 then (if b2 = 0 then (if x1 = x2 then 1 else 0) else 0) else (if b2 = 0 then 0 else 1)
theorem own_eqv_self (b z : Int32) : own_eqv b z b z = 1 := by
  unfold own_eqv
  by_cases h : b = 0 <;> simp [h]
theorem own_fld_uniq {Z : State} {h : Heap} {a : Addr} {C n d : String} {v w : Value} (F : Fld Z h a C n d v) (G : Fld Z h a C n d w) : v = w := by
  by_cases q : v = w
  · exact q
  · exact absurd rfl (F.ne G q)
theorem own_selects_private {args : Array Value} {s : State} {y : MethodName} {n : Nat} (hinst : (Jvm.Cond.instanceMethod y).before args s = true) (hpriv : (Jvm.Cond.privateMethod y).before args s = true) (hi : (Jvm.Cond.instantiable y.cls n).before args s = true) (hy : y.cls ≠ "java/lang/invoke/MethodHandle" ∧ y.cls ≠ "java/lang/invoke/VarHandle") : (Jvm.Cond.selects y.cls y y).before args s = true := by
  obtain ⟨mk, methM, hnamed, hmethM, hstM, habM⟩ := Cond.instanceMethod_spec hinst
  have hc := findClass_of_methodNamed hnamed
  obtain ⟨c, k, g1, g2, g3, g4, -⟩ := Cond.instantiable_spec hi
  cases hc.symm.trans g1
  have hf := State.methodFound?_of_named hnamed hy
  have hs : selectMethod {} s.vm mk.cls mk = .method mk := selectMethod_private hmethM (Cond.privateMethod_at hpriv mk methM hnamed hmethM)
  have g5 : k.isInterface = false := by
    simp only [Bool.or_eq_false_iff] at g4
    exact g4.1
  simp [Cond.before, Cond.holds, Cond.value, hc, hf, hnamed, hs, g2, g5]
def own_Mir (Z : State) (C : String) (mr : Addr) : Prop := ∃ (c : ClassId) (k : Class), Z.vm.findClass C = some c ∧ Z.vm.classes[c]? = some k ∧ k.mirror = some mr
theorem own_gcI {p : Program} {l : Launch} {e : Env} {R : Room} {s : State} {m : MethodId} {args : Array Value} {below : List Frame} {meth : Method} {c : Code} {T : State} {locs : List Loc} {cells slots : Nat} {Z : State} {a0 : Array Value} {h : Heap} {own C : String} {index count : Nat}
    (X : Stand p l e R s m args below meth c T locs cells slots) (hx : p.tables.exec = Jvm.exec) (hZ : Z.Warmed39 s.vm) (hown : s.vm.findClass own = some m.cls) (w1 : (Jvm.Cond.methodLink own index ⟨"java/util/List", "getClass", "()Ljava/lang/Class;"⟩).before a0 Z = true) (w2 : (Jvm.Cond.declares (⟨"java/lang/Object", "getClass", "()Ljava/lang/Class;"⟩ : MethodName)).before a0 Z = true)
    (w3 : (Jvm.Cond.interfaceMethod "java/util/List" "java/lang/Object" "getClass" "()Ljava/lang/Class;").before a0 Z = true) (w4 : (Jvm.Cond.selects C ⟨"java/util/List", "getClass", "()Ljava/lang/Class;"⟩ (⟨"java/lang/Object", "getClass", "()Ljava/lang/Class;"⟩ : MethodName)).before a0 Z = true) (w5 : (Jvm.Cond.instanceMethod (⟨"java/lang/Object", "getClass", "()Ljava/lang/Class;"⟩ : MethodName)).before a0 Z = true) (w6 : (Jvm.Cond.publicMethod (⟨"java/lang/Object", "getClass", "()Ljava/lang/Class;"⟩ : MethodName)).before a0 Z = true)
    (w7 : (Jvm.Cond.unhidden C "getClass" "()Ljava/lang/Class;").before a0 Z = true) (w8 : (Jvm.Cond.castable C "java/util/List").before a0 Z = true) (w9 : (Jvm.Cond.native (⟨"java/lang/Object", "getClass", "()Ljava/lang/Class;"⟩ : MethodName)).before a0 Z = true) (eT : T.heap = h) {a mr : Addr} (E : Exa Z h a C) (M : own_Mir Z C mr)
    {g : JFrame} (hg : g.method = m) (hsize : g.locals.size = c.maxLocals) {rest : List Value} (hst : g.stack = .ref a :: rest) (hd : decode c.code g.pc = .ok (.invokeinterface index count, 5)) (hf : 1 ≤ R.frames) (hl : 2 * g.monitorRoom + (rest.map fun v => v.category).sum + (nativeFrameWords "java/lang/Object" "getClass" 1 + 11) ≤ R.locals) :
    ∃ T', Stand p l e R s m args below meth c T' locs cells slots ∧ T'.heap = h ∧ ∀ target, Steps p.tables e below (T'.setTop { g with pc := g.pc + 5, stack := .ref mr :: rest }) target → Steps p.tables e below (T.setTop g) target := by
  obtain ⟨cB, kB, i1, i2, i3⟩ := isOf hZ eT E
  obtain ⟨cc, kc, m1, m2, m3⟩ := M
  rw [hZ.alike.findClass] at i1
  cases i1.symm.trans m1
  obtain ⟨k', q, ek⟩ := hZ.alike.2.2 _ _ m2
  obtain ⟨vm', X', st⟩ := X.getClassOfI hx (xi := ⟨"java/util/List", "getClass", "()Ljava/lang/Class;"⟩) hown (mvT hZ w1) (mvT hZ w2) (Jvm.Free.ULB.iface_rides hZ.alike w3) (mvT hZ w4) (mvT hZ w5) (mvT hZ w6) (mvT hZ w7) (mvT hZ w8) (mvT hZ w9) (by decide) (by decide) rfl rfl (by rw [hZ.alike.findClass]; exact m1) q i3 (by rw [ek]; exact m3) hg hsize hst hd hf hl
  exact ⟨_, X', eT, st⟩
theorem own_ldcM {p : Program} {l : Launch} {e : Env} {R : Room} {s : State} {m : MethodId} {args : Array Value} {below : List Frame} {meth : Method} {c : Code} {T : State} {locs : List Loc} {cells slots : Nat} {Z : State} {a0 : Array Value} {h : Heap} {own C : String} {index : Nat}
    (X : Stand p l e R s m args below meth c T locs cells slots) (hx : p.tables.exec = Jvm.exec) (hZ : Z.Warmed39 s.vm) (hown : s.vm.findClass own = some m.cls) (w1 : (Jvm.Cond.classLink own index C).before a0 Z = true) (eT : T.heap = h) {mr : Addr} (M : own_Mir Z C mr) {g : JFrame} (hg : g.method = m) (hd : decode c.code g.pc = .ok (.ldc index, 2)) :
    ∃ T', Stand p l e R s m args below meth c T' locs cells slots ∧ T'.heap = h ∧ ∀ target, Steps p.tables e below (T'.setTop { g with pc := g.pc + 2, stack := .ref mr :: g.stack }) target → Steps p.tables e below (T.setTop g) target := by
  obtain ⟨cc, kc, m1, m2, m3⟩ := M
  obtain ⟨k', q, ek⟩ := hZ.alike.2.2 _ _ m2
  have hev : (Term.mirror C).eval args s none [] s = some (.ref mr) := by
    simp only [Term.eval, Option.bind_eq_bind, Option.bind_eq_some_iff, Option.pure_def, Option.some.injEq]
    exact ⟨cc, by rw [hZ.alike.findClass]; exact m1, k', q, mr, by rw [ek]; exact m3, rfl⟩
  obtain ⟨vm', X', st⟩ := X.ldcMirror hx hown (mvT hZ w1) hev hg hd
  exact ⟨_, X', eT, st⟩
def Ctx (Z : State) (a0 : Array Value) (w_FRONT : Addr) (w_PART : Addr) (w_DIVISION : Addr) (w_BACK : Addr) (w_CHAPTER : Addr) (w_ARTICLE : Addr) (w_SECTION : Addr) (w_RESERVED : Addr) (w_dc : Addr) (w_el : Addr) (mA : Addr) (mL : Addr) (mR : Addr) : Prop := (∀ d ∈ tables_1, d.before a0 Z = true) ∧ Sta Z Z.heap "com/example/catchline/catchline/Kind" "FRONT" "Lcom/example/catchline/catchline/Kind;" (.ref w_FRONT) ∧ Exa Z Z.heap w_FRONT "com/example/catchline/catchline/Kind" ∧ Sta Z Z.heap "com/example/catchline/catchline/Kind" "PART" "Lcom/example/catchline/catchline/Kind;" (.ref w_PART) ∧ Exa Z Z.heap w_PART "com/example/catchline/catchline/Kind" ∧ Sta Z Z.heap "com/example/catchline/catchline/Kind" "DIVISION" "Lcom/example/catchline/catchline/Kind;" (.ref w_DIVISION) ∧ Exa Z Z.heap w_DIVISION "com/example/catchline/catchline/Kind" ∧ Sta Z Z.heap "com/example/catchline/catchline/Kind" "BACK" "Lcom/example/catchline/catchline/Kind;" (.ref w_BACK) ∧ Exa Z Z.heap w_BACK "com/example/catchline/catchline/Kind" ∧ Sta Z Z.heap "com/example/catchline/catchline/Kind" "CHAPTER" "Lcom/example/catchline/catchline/Kind;" (.ref w_CHAPTER) ∧ Exa Z Z.heap w_CHAPTER "com/example/catchline/catchline/Kind" ∧ Sta Z Z.heap "com/example/catchline/catchline/Kind" "ARTICLE" "Lcom/example/catchline/catchline/Kind;" (.ref w_ARTICLE) ∧ Exa Z Z.heap w_ARTICLE "com/example/catchline/catchline/Kind" ∧ Sta Z Z.heap "com/example/catchline/catchline/Kind" "SECTION" "Lcom/example/catchline/catchline/Kind;" (.ref w_SECTION) ∧ Exa Z Z.heap w_SECTION "com/example/catchline/catchline/Kind" ∧ Sta Z Z.heap "com/example/catchline/catchline/Kind" "RESERVED" "Lcom/example/catchline/catchline/Kind;" (.ref w_RESERVED) ∧ Exa Z Z.heap w_RESERVED "com/example/catchline/catchline/Kind" ∧ Fld Z Z.heap w_PART "java/lang/Enum" "ordinal" "I" (.int (1 : Int32)) ∧ Fld Z Z.heap w_FRONT "java/lang/Enum" "ordinal" "I" (.int (0 : Int32)) ∧ Fld Z Z.heap w_DIVISION "java/lang/Enum" "ordinal" "I" (.int (4 : Int32)) ∧ Fld Z Z.heap w_BACK "java/lang/Enum" "ordinal" "I" (.int (7 : Int32)) ∧ Fld Z Z.heap w_CHAPTER "java/lang/Enum" "ordinal" "I" (.int (2 : Int32)) ∧ Fld Z Z.heap w_ARTICLE "java/lang/Enum" "ordinal" "I" (.int (3 : Int32)) ∧ Fld Z Z.heap w_SECTION "java/lang/Enum" "ordinal" "I" (.int (5 : Int32)) ∧ Fld Z Z.heap w_RESERVED "java/lang/Enum" "ordinal" "I" (.int (6 : Int32)) ∧ Sta Z Z.heap "java/util/ArrayList" "DEFAULTCAPACITY_EMPTY_ELEMENTDATA" "[Ljava/lang/Object;" (.ref w_dc) ∧ Sta Z Z.heap "java/util/ImmutableCollections" "EMPTY_LIST" "Ljava/util/ImmutableCollections$ListN;" (.ref w_el) ∧ own_Mir Z "java/util/ArrayList" mA ∧ own_Mir Z "java/util/Collections$UnmodifiableList" mL ∧ own_Mir Z "java/util/Collections$UnmodifiableRandomAccessList" mR ∧ True
def Q0 (Z : State) (v : Option Value) (h : Heap) (L : List Loc) : Prop := v = some (.int (1 : Int32)) ∧ Fr Z.heap.size L
def QP (Z : State) (r : Value) (h0 : Heap) (v : Option Value) (h : Heap) (L : List Loc) : Prop := v = some r ∧ Fr Z.heap.size L ∧ h = h0
def QV (Z : State) (h0 : Heap) (v : Option Value) (h : Heap) (L : List Loc) : Prop := v = none ∧ Fr Z.heap.size L ∧ h = h0
def QX (Z : State) (h0 : Heap) (v : Option Value) (h : Heap) (L : List Loc) : Prop := ∃ r : Addr, v = some (.ref r) ∧ Fr Z.heap.size L ∧ Ext h0 h
def QK (Z : State) (w : Addr) (h0 : Heap) (v : Option Value) (h : Heap) (L : List Loc) : Prop := ∃ r : Addr, v = some (.ref r) ∧ Fr Z.heap.size L ∧ h = h0 ∧ r ≠ w
theorem d1_0 : decode method_2_code 0 = .ok (.iload_n 0, 1) := by decide +kernel
theorem d1_1 : decode method_2_code 1 = .ok (.ifCond .ne 7, 3) := by decide +kernel
theorem d1_4 : decode method_2_code 4 = .ok (.getstatic 7, 3) := by decide +kernel
theorem d1_7 : decode method_2_code 7 = .ok (.areturn, 1) := by decide +kernel
theorem d1_8 : decode method_2_code 8 = .ok (.iload_n 0, 1) := by decide +kernel
theorem d1_9 : decode method_2_code 9 = .ok (.iconst 1, 1) := by decide +kernel
theorem d1_10 : decode method_2_code 10 = .ok (.if_icmp .ne 7, 3) := by decide +kernel
theorem d1_13 : decode method_2_code 13 = .ok (.getstatic 13, 3) := by decide +kernel
theorem d1_16 : decode method_2_code 16 = .ok (.areturn, 1) := by decide +kernel
theorem d1_17 : decode method_2_code 17 = .ok (.iload_n 0, 1) := by decide +kernel
theorem d1_18 : decode method_2_code 18 = .ok (.iconst 2, 1) := by decide +kernel
theorem d1_19 : decode method_2_code 19 = .ok (.if_icmp .ne 7, 3) := by decide +kernel
theorem d1_22 : decode method_2_code 22 = .ok (.getstatic 16, 3) := by decide +kernel
theorem d1_25 : decode method_2_code 25 = .ok (.areturn, 1) := by decide +kernel
theorem d1_26 : decode method_2_code 26 = .ok (.iload_n 0, 1) := by decide +kernel
theorem d1_27 : decode method_2_code 27 = .ok (.iconst 3, 1) := by decide +kernel
theorem d1_28 : decode method_2_code 28 = .ok (.if_icmp .ne 7, 3) := by decide +kernel
theorem d1_31 : decode method_2_code 31 = .ok (.getstatic 19, 3) := by decide +kernel
theorem d1_34 : decode method_2_code 34 = .ok (.areturn, 1) := by decide +kernel
theorem d1_35 : decode method_2_code 35 = .ok (.iload_n 0, 1) := by decide +kernel
theorem d1_36 : decode method_2_code 36 = .ok (.iconst 4, 1) := by decide +kernel
theorem d1_37 : decode method_2_code 37 = .ok (.if_icmp .ne 7, 3) := by decide +kernel
theorem d1_40 : decode method_2_code 40 = .ok (.getstatic 22, 3) := by decide +kernel
theorem d1_43 : decode method_2_code 43 = .ok (.areturn, 1) := by decide +kernel
theorem d1_44 : decode method_2_code 44 = .ok (.iload_n 0, 1) := by decide +kernel
theorem d1_45 : decode method_2_code 45 = .ok (.iconst 5, 1) := by decide +kernel
theorem d1_46 : decode method_2_code 46 = .ok (.if_icmp .ne 7, 3) := by decide +kernel
theorem d1_49 : decode method_2_code 49 = .ok (.getstatic 25, 3) := by decide +kernel
theorem d1_52 : decode method_2_code 52 = .ok (.areturn, 1) := by decide +kernel
theorem d1_53 : decode method_2_code 53 = .ok (.iload_n 0, 1) := by decide +kernel
theorem d1_54 : decode method_2_code 54 = .ok (.bipush 6, 2) := by decide +kernel
theorem d1_56 : decode method_2_code 56 = .ok (.if_icmp .ne 7, 3) := by decide +kernel
theorem d1_59 : decode method_2_code 59 = .ok (.getstatic 28, 3) := by decide +kernel
theorem d1_62 : decode method_2_code 62 = .ok (.areturn, 1) := by decide +kernel
theorem d1_63 : decode method_2_code 63 = .ok (.getstatic 31, 3) := by decide +kernel
theorem d1_66 : decode method_2_code 66 = .ok (.areturn, 1) := by decide +kernel
theorem pn_0 : plainName "com/example/catchline/catchline/NodeTextStartPinLaw" = true := by first | (simp [plainName, overriddenIn]; done) | decide +kernel
set_option maxRecDepth 65536 in
set_option maxHeartbeats 40000000 in
theorem rmK_F (l : Launch) (Z : State) (a0 : Array Value) {w_FRONT : Addr} {w_PART : Addr} {w_DIVISION : Addr} {w_BACK : Addr} {w_CHAPTER : Addr} {w_ARTICLE : Addr} {w_SECTION : Addr} {w_RESERVED : Addr} {w_dc : Addr} {w_el : Addr} {mA : Addr} {mL : Addr} {mR : Addr} (CX : Ctx Z a0 w_FRONT w_PART w_DIVISION w_BACK w_CHAPTER w_ARTICLE w_SECTION w_RESERVED w_dc w_el mA mL mR) (ws : List Jvm.Cond) (p1 : Int32) (h0 : Heap) (O : Ext Z.heap h0) (hp : p1 = (0 : Int32)) :
    MetFree l (⟨"com/example/catchline/catchline/NodeTextStartPinLaw", "kindOf", "(I)Lcom/example/catchline/catchline/Kind;"⟩ : MethodName) (head1 (Jvm.Cond.code (⟨"com/example/catchline/catchline/NodeTextStartPinLaw", "kindOf", "(I)Lcom/example/catchline/catchline/Kind;"⟩ : MethodName) method_2_code 1 (some (.object "com/example/catchline/catchline/Kind")) :: ws) ({ frames := 0, cells := 0, slots := 0, locals := 0 } : Room)) (fun a U => a = #[(.int p1)] ∧ Z.Warmed39 U.vm ∧ U.heap = h0) (fun _ _ _ _ _ => True) (fun _ U o U' => ∃ v L, o = .returned v ∧ QP Z (.ref w_FRONT) h0 v U'.heap L ∧ FrameEnd U o U' L ({ frames := 0, cells := 0, slots := 0, locals := 0 } : Room).cells ({ frames := 0, cells := 0, slots := 0, locals := 0 } : Room).slots) := by
  refine MetFree.of_bodySF (plainFor_of_name pn_0) hisR ?_
  intro p e s m args below meth c s₁ Bd hml0 hP hK
  obtain ⟨rfl, hZ, hh⟩ := hP
  have CX0 := CX
  obtain ⟨hw, S_FRONT, E_FRONT, S_PART, E_PART, S_DIVISION, E_DIVISION, S_BACK, E_BACK, S_CHAPTER, E_CHAPTER, S_ARTICLE, E_ARTICLE, S_SECTION, E_SECTION, S_RESERVED, E_RESERVED, O_PART, O_FRONT, O_DIVISION, O_BACK, O_CHAPTER, O_ARTICLE, O_SECTION, O_RESERVED, S_dc, S_el, MmA, MmL, MmR, -⟩ := CX0
  have hx := Bd.exec
  have hby := Bd.bytes
  have hml : c.maxLocals = 1 := hml0
  have hown : s.vm.findClass "com/example/catchline/catchline/NodeTextStartPinLaw" = some m.cls := findClass_of_methodNamed Bd.named
  have hnm := (name_of_methodNamed Bd.named Bd.method).1
  have hlk : meth.locks = false := BodyLoose.notSynchronized Bd
  have X0 : Stand p l e ({ frames := 0, cells := 0, slots := 0, locals := 0 } : Room) s m #[(.int p1)] below meth c s₁ [] 0 0 := Stand.of_body Bd
  have e0 : s₁.heap = h0 := by rw [← hh, Bd.state]; rfl
  have N := Fr.nil Z.heap.size
  show own_Done p.tables e below (own_R (QP Z (.ref w_FRONT) h0) s 0 0) s₁ (entryFrame m #[(.int p1)] 1)
  refine own_st (T' := s₁) (F' := (mkF m 0 #[.val (.int p1)] [])) (fun t k => castTop (by first | rfl | (simp [entryFrame, mkF, argsToLocals, Value.category]; done)) k) ?_
  refine own_st (T' := s₁) (F' := (mkF m 1 #[.val (.int p1)] [(.int p1)])) (fun t k => XS.iloadN X0.here hx rfl (hb hby d1_0) rfl k) ?_
  refine own_st (T' := s₁) (F' := (mkF m 4 #[.val (.int p1)] [])) (fun t k => XS.ifNo X0.here hx rfl (hb hby d1_1) rfl ((if0 _ _).trans (teq hp).2) k) ?_
  obtain ⟨T1, X1, e1, st1⟩ := getS2 X0 hx hZ hown (host := "") (Or.inl (hw _ (List.mem_of_getElem? (i := 4) rfl))) Via.refl e0 (S_FRONT.ext O) (g := (mkF m 4 #[.val (.int p1)] [])) rfl (hb hby d1_4)
  refine own_st (T' := T1) (F' := (mkF m 7 #[.val (.int p1)] [(.ref w_FRONT)])) st1 ?_
  exact own_retA X1 hx (t := (.object "com/example/catchline/catchline/Kind")) Bd.returns rfl rfl (hb hby d1_7) hlk (by show QP Z (.ref w_FRONT) h0 _ T1.heap _; rw [e1]; exact ⟨rfl, N, rfl⟩) (by decide) (by decide)
set_option maxRecDepth 65536 in
set_option maxHeartbeats 40000000 in
theorem rmK_N (l : Launch) (Z : State) (a0 : Array Value) {w_FRONT : Addr} {w_PART : Addr} {w_DIVISION : Addr} {w_BACK : Addr} {w_CHAPTER : Addr} {w_ARTICLE : Addr} {w_SECTION : Addr} {w_RESERVED : Addr} {w_dc : Addr} {w_el : Addr} {mA : Addr} {mL : Addr} {mR : Addr} (CX : Ctx Z a0 w_FRONT w_PART w_DIVISION w_BACK w_CHAPTER w_ARTICLE w_SECTION w_RESERVED w_dc w_el mA mL mR) (ws : List Jvm.Cond) (p1 : Int32) (h0 : Heap) (O : Ext Z.heap h0) (hp : ¬ p1 = (0 : Int32)) :
    MetFree l (⟨"com/example/catchline/catchline/NodeTextStartPinLaw", "kindOf", "(I)Lcom/example/catchline/catchline/Kind;"⟩ : MethodName) (head1 (Jvm.Cond.code (⟨"com/example/catchline/catchline/NodeTextStartPinLaw", "kindOf", "(I)Lcom/example/catchline/catchline/Kind;"⟩ : MethodName) method_2_code 1 (some (.object "com/example/catchline/catchline/Kind")) :: ws) ({ frames := 0, cells := 0, slots := 0, locals := 0 } : Room)) (fun a U => a = #[(.int p1)] ∧ Z.Warmed39 U.vm ∧ U.heap = h0) (fun _ _ _ _ _ => True) (fun _ U o U' => ∃ v L, o = .returned v ∧ QK Z w_FRONT h0 v U'.heap L ∧ FrameEnd U o U' L ({ frames := 0, cells := 0, slots := 0, locals := 0 } : Room).cells ({ frames := 0, cells := 0, slots := 0, locals := 0 } : Room).slots) := by
  refine MetFree.of_bodySF (plainFor_of_name pn_0) hisR ?_
  intro p e s m args below meth c s₁ Bd hml0 hP hK
  obtain ⟨rfl, hZ, hh⟩ := hP
  have CX0 := CX
  obtain ⟨hw, S_FRONT, E_FRONT, S_PART, E_PART, S_DIVISION, E_DIVISION, S_BACK, E_BACK, S_CHAPTER, E_CHAPTER, S_ARTICLE, E_ARTICLE, S_SECTION, E_SECTION, S_RESERVED, E_RESERVED, O_PART, O_FRONT, O_DIVISION, O_BACK, O_CHAPTER, O_ARTICLE, O_SECTION, O_RESERVED, S_dc, S_el, MmA, MmL, MmR, -⟩ := CX0
  have hx := Bd.exec
  have hby := Bd.bytes
  have hml : c.maxLocals = 1 := hml0
  have hown : s.vm.findClass "com/example/catchline/catchline/NodeTextStartPinLaw" = some m.cls := findClass_of_methodNamed Bd.named
  have hnm := (name_of_methodNamed Bd.named Bd.method).1
  have hlk : meth.locks = false := BodyLoose.notSynchronized Bd
  have X0 : Stand p l e ({ frames := 0, cells := 0, slots := 0, locals := 0 } : Room) s m #[(.int p1)] below meth c s₁ [] 0 0 := Stand.of_body Bd
  have e0 : s₁.heap = h0 := by rw [← hh, Bd.state]; rfl
  have N := Fr.nil Z.heap.size
  show own_Done p.tables e below (own_R (QK Z w_FRONT h0) s 0 0) s₁ (entryFrame m #[(.int p1)] 1)
  refine own_st (T' := s₁) (F' := (mkF m 0 #[.val (.int p1)] [])) (fun t k => castTop (by first | rfl | (simp [entryFrame, mkF, argsToLocals, Value.category]; done)) k) ?_
  refine own_st (T' := s₁) (F' := (mkF m 1 #[.val (.int p1)] [(.int p1)])) (fun t k => XS.iloadN X0.here hx rfl (hb hby d1_0) rfl k) ?_
  refine own_st (T' := s₁) (F' := (mkF m 8 #[.val (.int p1)] [])) (fun t k => XS.ifYes X0.here hx rfl (pc0 := 1) (pc' := 8) rfl (hb hby d1_1) rfl ((if0 _ _).trans (feq hp).2) (by decide) (by decide) k) ?_
  refine own_st (T' := s₁) (F' := (mkF m 9 #[.val (.int p1)] [(.int p1)])) (fun t k => XS.iloadN X0.here hx rfl (hb hby d1_8) rfl k) ?_
  refine own_st (T' := s₁) (F' := (mkF m 10 #[.val (.int p1)] [(.int (1 : Int32)), (.int p1)])) (fun t k => XS.iconst X0.here hx rfl (hb hby d1_9) k) ?_
  by_cases hc10_1 : p1 = (1 : Int32)
  · refine own_st (T' := s₁) (F' := (mkF m 13 #[.val (.int p1)] [])) (fun t k => XS.icmpNo X0.here hx rfl (hb hby d1_10) rfl (teq hc10_1).2 k) ?_
    obtain ⟨T2, X2, e2, st2⟩ := getS2 X0 hx hZ hown (host := "") (Or.inl (hw _ (List.mem_of_getElem? (i := 137) rfl))) Via.refl e0 (S_PART.ext O) (g := (mkF m 13 #[.val (.int p1)] [])) rfl (hb hby d1_13)
    refine own_st (T' := T2) (F' := (mkF m 16 #[.val (.int p1)] [(.ref w_PART)])) st2 ?_
    exact own_retA X2 hx (t := (.object "com/example/catchline/catchline/Kind")) Bd.returns rfl rfl (hb hby d1_16) hlk (by show QK Z w_FRONT h0 _ T2.heap _; rw [e2]; exact ⟨_, rfl, N, rfl, (O_PART.ne O_FRONT (by decide))⟩) (by decide) (by decide)
  · refine own_st (T' := s₁) (F' := (mkF m 17 #[.val (.int p1)] [])) (fun t k => XS.icmpYes X0.here hx rfl (pc0 := 10) (pc' := 17) rfl (hb hby d1_10) rfl (feq hc10_1).2 (by decide) (by decide) k) ?_
    refine own_st (T' := s₁) (F' := (mkF m 18 #[.val (.int p1)] [(.int p1)])) (fun t k => XS.iloadN X0.here hx rfl (hb hby d1_17) rfl k) ?_
    refine own_st (T' := s₁) (F' := (mkF m 19 #[.val (.int p1)] [(.int (2 : Int32)), (.int p1)])) (fun t k => XS.iconst X0.here hx rfl (hb hby d1_18) k) ?_
    by_cases hc19_3 : p1 = (2 : Int32)
    · refine own_st (T' := s₁) (F' := (mkF m 22 #[.val (.int p1)] [])) (fun t k => XS.icmpNo X0.here hx rfl (hb hby d1_19) rfl (teq hc19_3).2 k) ?_
      obtain ⟨T4, X4, e4, st4⟩ := getS2 X0 hx hZ hown (host := "") (Or.inl (hw _ (List.mem_of_getElem? (i := 143) rfl))) Via.refl e0 (S_CHAPTER.ext O) (g := (mkF m 22 #[.val (.int p1)] [])) rfl (hb hby d1_22)
      refine own_st (T' := T4) (F' := (mkF m 25 #[.val (.int p1)] [(.ref w_CHAPTER)])) st4 ?_
      exact own_retA X4 hx (t := (.object "com/example/catchline/catchline/Kind")) Bd.returns rfl rfl (hb hby d1_25) hlk (by show QK Z w_FRONT h0 _ T4.heap _; rw [e4]; exact ⟨_, rfl, N, rfl, (O_CHAPTER.ne O_FRONT (by decide))⟩) (by decide) (by decide)
    · refine own_st (T' := s₁) (F' := (mkF m 26 #[.val (.int p1)] [])) (fun t k => XS.icmpYes X0.here hx rfl (pc0 := 19) (pc' := 26) rfl (hb hby d1_19) rfl (feq hc19_3).2 (by decide) (by decide) k) ?_
      refine own_st (T' := s₁) (F' := (mkF m 27 #[.val (.int p1)] [(.int p1)])) (fun t k => XS.iloadN X0.here hx rfl (hb hby d1_26) rfl k) ?_
      refine own_st (T' := s₁) (F' := (mkF m 28 #[.val (.int p1)] [(.int (3 : Int32)), (.int p1)])) (fun t k => XS.iconst X0.here hx rfl (hb hby d1_27) k) ?_
      by_cases hc28_5 : p1 = (3 : Int32)
      · refine own_st (T' := s₁) (F' := (mkF m 31 #[.val (.int p1)] [])) (fun t k => XS.icmpNo X0.here hx rfl (hb hby d1_28) rfl (teq hc28_5).2 k) ?_
        obtain ⟨T6, X6, e6, st6⟩ := getS2 X0 hx hZ hown (host := "") (Or.inl (hw _ (List.mem_of_getElem? (i := 145) rfl))) Via.refl e0 (S_ARTICLE.ext O) (g := (mkF m 31 #[.val (.int p1)] [])) rfl (hb hby d1_31)
        refine own_st (T' := T6) (F' := (mkF m 34 #[.val (.int p1)] [(.ref w_ARTICLE)])) st6 ?_
        exact own_retA X6 hx (t := (.object "com/example/catchline/catchline/Kind")) Bd.returns rfl rfl (hb hby d1_34) hlk (by show QK Z w_FRONT h0 _ T6.heap _; rw [e6]; exact ⟨_, rfl, N, rfl, (O_ARTICLE.ne O_FRONT (by decide))⟩) (by decide) (by decide)
      · refine own_st (T' := s₁) (F' := (mkF m 35 #[.val (.int p1)] [])) (fun t k => XS.icmpYes X0.here hx rfl (pc0 := 28) (pc' := 35) rfl (hb hby d1_28) rfl (feq hc28_5).2 (by decide) (by decide) k) ?_
        refine own_st (T' := s₁) (F' := (mkF m 36 #[.val (.int p1)] [(.int p1)])) (fun t k => XS.iloadN X0.here hx rfl (hb hby d1_35) rfl k) ?_
        refine own_st (T' := s₁) (F' := (mkF m 37 #[.val (.int p1)] [(.int (4 : Int32)), (.int p1)])) (fun t k => XS.iconst X0.here hx rfl (hb hby d1_36) k) ?_
        by_cases hc37_7 : p1 = (4 : Int32)
        · refine own_st (T' := s₁) (F' := (mkF m 40 #[.val (.int p1)] [])) (fun t k => XS.icmpNo X0.here hx rfl (hb hby d1_37) rfl (teq hc37_7).2 k) ?_
          obtain ⟨T8, X8, e8, st8⟩ := getS2 X0 hx hZ hown (host := "") (Or.inl (hw _ (List.mem_of_getElem? (i := 139) rfl))) Via.refl e0 (S_DIVISION.ext O) (g := (mkF m 40 #[.val (.int p1)] [])) rfl (hb hby d1_40)
          refine own_st (T' := T8) (F' := (mkF m 43 #[.val (.int p1)] [(.ref w_DIVISION)])) st8 ?_
          exact own_retA X8 hx (t := (.object "com/example/catchline/catchline/Kind")) Bd.returns rfl rfl (hb hby d1_43) hlk (by show QK Z w_FRONT h0 _ T8.heap _; rw [e8]; exact ⟨_, rfl, N, rfl, (O_DIVISION.ne O_FRONT (by decide))⟩) (by decide) (by decide)
        · refine own_st (T' := s₁) (F' := (mkF m 44 #[.val (.int p1)] [])) (fun t k => XS.icmpYes X0.here hx rfl (pc0 := 37) (pc' := 44) rfl (hb hby d1_37) rfl (feq hc37_7).2 (by decide) (by decide) k) ?_
          refine own_st (T' := s₁) (F' := (mkF m 45 #[.val (.int p1)] [(.int p1)])) (fun t k => XS.iloadN X0.here hx rfl (hb hby d1_44) rfl k) ?_
          refine own_st (T' := s₁) (F' := (mkF m 46 #[.val (.int p1)] [(.int (5 : Int32)), (.int p1)])) (fun t k => XS.iconst X0.here hx rfl (hb hby d1_45) k) ?_
          by_cases hc46_9 : p1 = (5 : Int32)
          · refine own_st (T' := s₁) (F' := (mkF m 49 #[.val (.int p1)] [])) (fun t k => XS.icmpNo X0.here hx rfl (hb hby d1_46) rfl (teq hc46_9).2 k) ?_
            obtain ⟨T10, X10, e10, st10⟩ := getS2 X0 hx hZ hown (host := "") (Or.inl (hw _ (List.mem_of_getElem? (i := 147) rfl))) Via.refl e0 (S_SECTION.ext O) (g := (mkF m 49 #[.val (.int p1)] [])) rfl (hb hby d1_49)
            refine own_st (T' := T10) (F' := (mkF m 52 #[.val (.int p1)] [(.ref w_SECTION)])) st10 ?_
            exact own_retA X10 hx (t := (.object "com/example/catchline/catchline/Kind")) Bd.returns rfl rfl (hb hby d1_52) hlk (by show QK Z w_FRONT h0 _ T10.heap _; rw [e10]; exact ⟨_, rfl, N, rfl, (O_SECTION.ne O_FRONT (by decide))⟩) (by decide) (by decide)
          · refine own_st (T' := s₁) (F' := (mkF m 53 #[.val (.int p1)] [])) (fun t k => XS.icmpYes X0.here hx rfl (pc0 := 46) (pc' := 53) rfl (hb hby d1_46) rfl (feq hc46_9).2 (by decide) (by decide) k) ?_
            refine own_st (T' := s₁) (F' := (mkF m 54 #[.val (.int p1)] [(.int p1)])) (fun t k => XS.iloadN X0.here hx rfl (hb hby d1_53) rfl k) ?_
            refine own_st (T' := s₁) (F' := (mkF m 56 #[.val (.int p1)] [(.int (6 : Int32)), (.int p1)])) (fun t k => XS.bipush X0.here hx rfl (hb hby d1_54) k) ?_
            by_cases hc56_11 : p1 = (6 : Int32)
            · refine own_st (T' := s₁) (F' := (mkF m 59 #[.val (.int p1)] [])) (fun t k => XS.icmpNo X0.here hx rfl (hb hby d1_56) rfl (teq hc56_11).2 k) ?_
              obtain ⟨T12, X12, e12, st12⟩ := getS2 X0 hx hZ hown (host := "") (Or.inl (hw _ (List.mem_of_getElem? (i := 149) rfl))) Via.refl e0 (S_RESERVED.ext O) (g := (mkF m 59 #[.val (.int p1)] [])) rfl (hb hby d1_59)
              refine own_st (T' := T12) (F' := (mkF m 62 #[.val (.int p1)] [(.ref w_RESERVED)])) st12 ?_
              exact own_retA X12 hx (t := (.object "com/example/catchline/catchline/Kind")) Bd.returns rfl rfl (hb hby d1_62) hlk (by show QK Z w_FRONT h0 _ T12.heap _; rw [e12]; exact ⟨_, rfl, N, rfl, (O_RESERVED.ne O_FRONT (by decide))⟩) (by decide) (by decide)
            · refine own_st (T' := s₁) (F' := (mkF m 63 #[.val (.int p1)] [])) (fun t k => XS.icmpYes X0.here hx rfl (pc0 := 56) (pc' := 63) rfl (hb hby d1_56) rfl (feq hc56_11).2 (by decide) (by decide) k) ?_
              obtain ⟨T13, X13, e13, st13⟩ := getS2 X0 hx hZ hown (host := "") (Or.inl (hw _ (List.mem_of_getElem? (i := 141) rfl))) Via.refl e0 (S_BACK.ext O) (g := (mkF m 63 #[.val (.int p1)] [])) rfl (hb hby d1_63)
              refine own_st (T' := T13) (F' := (mkF m 66 #[.val (.int p1)] [(.ref w_BACK)])) st13 ?_
              exact own_retA X13 hx (t := (.object "com/example/catchline/catchline/Kind")) Bd.returns rfl rfl (hb hby d1_66) hlk (by show QK Z w_FRONT h0 _ T13.heap _; rw [e13]; exact ⟨_, rfl, N, rfl, (O_BACK.ne O_FRONT (by decide))⟩) (by decide) (by decide)
theorem d6_0 : decode jdk_22_method_1_code 0 = .ok (.aload_n 0, 1) := by decide +kernel
theorem d6_1 : decode jdk_22_method_1_code 1 = .ok (.invokespecial 1, 3) := by decide +kernel
theorem d6_4 : decode jdk_22_method_1_code 4 = .ok (.return_, 1) := by decide +kernel
theorem pn_1 : plainName "java/util/AbstractCollection" = true := by first | (simp [plainName, overriddenIn]; done) | decide +kernel
set_option maxRecDepth 65536 in
set_option maxHeartbeats 40000000 in
theorem rm6 (l : Launch) (Z : State) (a0 : Array Value) {w_FRONT : Addr} {w_PART : Addr} {w_DIVISION : Addr} {w_BACK : Addr} {w_CHAPTER : Addr} {w_ARTICLE : Addr} {w_SECTION : Addr} {w_RESERVED : Addr} {w_dc : Addr} {w_el : Addr} {mA : Addr} {mL : Addr} {mR : Addr} (CX : Ctx Z a0 w_FRONT w_PART w_DIVISION w_BACK w_CHAPTER w_ARTICLE w_SECTION w_RESERVED w_dc w_el mA mL mR) (ws : List Jvm.Cond) (a1 : Addr) (h0 : Heap) (O : Ext Z.heap h0)  :
    MetFree l (⟨"java/util/AbstractCollection", "<init>", "()V"⟩ : MethodName) (head1 (Jvm.Cond.code (⟨"java/util/AbstractCollection", "<init>", "()V"⟩ : MethodName) jdk_22_method_1_code 1 none :: ws) ({ frames := 1, cells := 0, slots := 0, locals := 12 } : Room)) (fun a U => a = #[(.ref a1)] ∧ Z.Warmed39 U.vm ∧ U.heap = h0) (fun _ _ _ _ _ => True) (fun _ U o U' => ∃ v L, o = .returned v ∧ QV Z h0 v U'.heap L ∧ FrameEnd U o U' L ({ frames := 1, cells := 0, slots := 0, locals := 12 } : Room).cells ({ frames := 1, cells := 0, slots := 0, locals := 12 } : Room).slots) := by
  refine MetFree.of_bodySF (plainFor_of_name pn_1) hisR ?_
  intro p e s m args below meth c s₁ Bd hml0 hP hK
  obtain ⟨rfl, hZ, hh⟩ := hP
  have CX0 := CX
  obtain ⟨hw, S_FRONT, E_FRONT, S_PART, E_PART, S_DIVISION, E_DIVISION, S_BACK, E_BACK, S_CHAPTER, E_CHAPTER, S_ARTICLE, E_ARTICLE, S_SECTION, E_SECTION, S_RESERVED, E_RESERVED, O_PART, O_FRONT, O_DIVISION, O_BACK, O_CHAPTER, O_ARTICLE, O_SECTION, O_RESERVED, S_dc, S_el, MmA, MmL, MmR, -⟩ := CX0
  have hx := Bd.exec
  have hby := Bd.bytes
  have hml : c.maxLocals = 1 := hml0
  have hown : s.vm.findClass "java/util/AbstractCollection" = some m.cls := findClass_of_methodNamed Bd.named
  have hnm := (name_of_methodNamed Bd.named Bd.method).1
  have hlk : meth.locks = false := BodyLoose.notSynchronized Bd
  have X0 : Stand p l e ({ frames := 1, cells := 0, slots := 0, locals := 12 } : Room) s m #[(.ref a1)] below meth c s₁ [] 0 0 := Stand.of_body Bd
  have e0 : s₁.heap = h0 := by rw [← hh, Bd.state]; rfl
  have N := Fr.nil Z.heap.size
  show own_Done p.tables e below (own_R (QV Z h0) s 0 0) s₁ (entryFrame m #[(.ref a1)] 1)
  refine own_st (T' := s₁) (F' := (mkF m 0 #[.val (.ref a1)] [])) (fun t k => castTop (by first | rfl | (simp [entryFrame, mkF, argsToLocals, Value.category]; done)) k) ?_
  refine own_st (T' := s₁) (F' := (mkF m 1 #[.val (.ref a1)] [(.ref a1)])) (fun t k => XS.aloadN X0.here hx rfl (hb hby d6_0) rfl rfl k) ?_
  obtain ⟨T1, X1, e1, st1⟩ := initO X0 hx hZ hown (hw _ (List.mem_of_getElem? (i := 42) rfl)) (hw _ (List.mem_of_getElem? (i := 22) rfl)) (hw _ (List.mem_of_getElem? (i := 23) rfl)) e0 (g := (mkF m 1 #[.val (.ref a1)] [(.ref a1)])) rfl (by rw [hml]; rfl) rfl (hb hby d6_1) (by decide) (W := 0) (by show 2 * 0 + _ ≤ _; exact Nat.le_of_eq rfl) (by decide)
  refine own_st (T' := T1) (F' := (mkF m 4 #[.val (.ref a1)] [])) st1 ?_
  exact own_retV X1 hx Bd.returns (hb hby d6_4) hlk (by show QV Z h0 _ T1.heap _; rw [e1]; exact ⟨rfl, N, rfl⟩) (by decide) (by decide)
def Q_rm5 (Z : State) (a1 : Addr) (u_modCount : Int32) (u_elementData : Value) (hu_elementData : u_elementData.isRef = true) (h0 : Heap) (v : Option Value) (h : Heap) (L : List Loc) : Prop := v = none ∧ Fr Z.heap.size L ∧ Keep h0 h [a1] ∧ Fld Z h a1 "java/util/AbstractList" "modCount" "I" (.int (0 : Int32)) ∧ Fld Z h a1 "java/util/ArrayList" "elementData" "[Ljava/lang/Object;" u_elementData
theorem d5_0 : decode jdk_39_method_1_code 0 = .ok (.aload_n 0, 1) := by decide +kernel
theorem d5_1 : decode jdk_39_method_1_code 1 = .ok (.invokespecial 1, 3) := by decide +kernel
theorem d5_4 : decode jdk_39_method_1_code 4 = .ok (.aload_n 0, 1) := by decide +kernel
theorem d5_5 : decode jdk_39_method_1_code 5 = .ok (.iconst 0, 1) := by decide +kernel
theorem d5_6 : decode jdk_39_method_1_code 6 = .ok (.putfield 7, 3) := by decide +kernel
theorem d5_9 : decode jdk_39_method_1_code 9 = .ok (.return_, 1) := by decide +kernel
theorem pn_2 : plainName "java/util/AbstractList" = true := by first | (simp [plainName, overriddenIn]; done) | decide +kernel
theorem pd_0 : parseMethodDescriptor "()V" = some ⟨[], none⟩ := by decide +kernel
set_option maxRecDepth 65536 in
set_option maxHeartbeats 40000000 in
theorem rm5 (l : Launch) (Z : State) (a0 : Array Value) {w_FRONT : Addr} {w_PART : Addr} {w_DIVISION : Addr} {w_BACK : Addr} {w_CHAPTER : Addr} {w_ARTICLE : Addr} {w_SECTION : Addr} {w_RESERVED : Addr} {w_dc : Addr} {w_el : Addr} {mA : Addr} {mL : Addr} {mR : Addr} (CX : Ctx Z a0 w_FRONT w_PART w_DIVISION w_BACK w_CHAPTER w_ARTICLE w_SECTION w_RESERVED w_dc w_el mA mL mR) (ws : List Jvm.Cond) (a1 : Addr) (u_modCount : Int32) (u_elementData : Value) (hu_elementData : u_elementData.isRef = true) (h0 : Heap) (O : Ext Z.heap h0) (E_a1 : Exa Z h0 a1 "java/util/ArrayList") (g_a1 : Z.heap.size ≤ a1) (F_modCount : Fld Z h0 a1 "java/util/AbstractList" "modCount" "I" (.int u_modCount)) (F_elementData : Fld Z h0 a1 "java/util/ArrayList" "elementData" "[Ljava/lang/Object;" u_elementData) :
    MetFree l (⟨"java/util/AbstractList", "<init>", "()V"⟩ : MethodName) (head1 (Jvm.Cond.code (⟨"java/util/AbstractList", "<init>", "()V"⟩ : MethodName) jdk_39_method_1_code 1 none :: ws) ({ frames := 2, cells := 0, slots := 0, locals := 24 } : Room)) (fun a U => a = #[(.ref a1)] ∧ Z.Warmed39 U.vm ∧ U.heap = h0) (fun _ _ _ _ _ => True) (fun _ U o U' => ∃ v L, o = .returned v ∧ Q_rm5 Z a1 u_modCount u_elementData hu_elementData h0 v U'.heap L ∧ FrameEnd U o U' L ({ frames := 2, cells := 0, slots := 0, locals := 24 } : Room).cells ({ frames := 2, cells := 0, slots := 0, locals := 24 } : Room).slots) := by
  refine MetFree.of_bodySF (plainFor_of_name pn_2) hisR ?_
  intro p e s m args below meth c s₁ Bd hml0 hP hK
  obtain ⟨rfl, hZ, hh⟩ := hP
  have CX0 := CX
  obtain ⟨hw, S_FRONT, E_FRONT, S_PART, E_PART, S_DIVISION, E_DIVISION, S_BACK, E_BACK, S_CHAPTER, E_CHAPTER, S_ARTICLE, E_ARTICLE, S_SECTION, E_SECTION, S_RESERVED, E_RESERVED, O_PART, O_FRONT, O_DIVISION, O_BACK, O_CHAPTER, O_ARTICLE, O_SECTION, O_RESERVED, S_dc, S_el, MmA, MmL, MmR, -⟩ := CX0
  have hx := Bd.exec
  have hby := Bd.bytes
  have hml : c.maxLocals = 1 := hml0
  have hown : s.vm.findClass "java/util/AbstractList" = some m.cls := findClass_of_methodNamed Bd.named
  have hnm := (name_of_methodNamed Bd.named Bd.method).1
  have hlk : meth.locks = false := BodyLoose.notSynchronized Bd
  have X0 : Stand p l e ({ frames := 2, cells := 0, slots := 0, locals := 24 } : Room) s m #[(.ref a1)] below meth c s₁ [] 0 0 := Stand.of_body Bd
  have e0 : s₁.heap = h0 := by rw [← hh, Bd.state]; rfl
  have N := Fr.nil Z.heap.size
  show own_Done p.tables e below (own_R (Q_rm5 Z a1 u_modCount u_elementData hu_elementData h0) s 0 0) s₁ (entryFrame m #[(.ref a1)] 1)
  refine own_st (T' := s₁) (F' := (mkF m 0 #[.val (.ref a1)] [])) (fun t k => castTop (by first | rfl | (simp [entryFrame, mkF, argsToLocals, Value.category]; done)) k) ?_
  have KP := Keep.refl h0 [a1]
  refine own_st (T' := s₁) (F' := (mkF m 1 #[.val (.ref a1)] [(.ref a1)])) (fun t k => XS.aloadN X0.here hx rfl (hb hby d5_0) rfl rfl k) ?_
  obtain ⟨v1, _, ⟨T1, L1, k1, n1⟩, -, X1, ⟨Lc1, hQ1, l1, y1, z1⟩, st1⟩ := X0.specialBack hx (y := (⟨"java/util/AbstractCollection", "<init>", "()V"⟩ : MethodName)) rfl hown (mvT hZ (hw _ (List.mem_of_getElem? (i := 36) rfl))) (mvT hZ (hw _ (List.mem_of_getElem? (i := 37) rfl))) (mvT hZ (hw _ (List.mem_of_getElem? (i := 41) rfl))) (by decide) (backOf (W := 0) (rm6 l Z a0 CX [] a1 h0 O) hZ (hw _ (List.mem_of_getElem? (i := 41) rfl)) (hw _ (List.mem_of_getElem? (i := 40) rfl)) (by decide) (by decide)) (g := (mkF m 1 #[.val (.ref a1)] [(.ref a1)])) rfl (by rw [hml]; rfl) (Steps.refl _) (a := a1) (argsL := []) (rest := []) (lenOf pd_0 rfl) rfl (by show 2 * 0 + _ ≤ _; exact Nat.le_of_eq rfl) (hb hby d5_1) (fun _ _ => ⟨rfl, e0, (by decide : 0 + 0 ≤ _), (by decide : 0 + 0 ≤ _)⟩)
  dsimp only [Pt.U, Pt.locs, Pt.cells, Pt.slots] at X1 l1 y1 z1 st1 hQ1
  subst l1 y1 z1
  obtain ⟨rfl, N1q, e1⟩ := hQ1
  have N := Fr.app N N1q
  refine own_tr (T' := T1) (F' := (mkF m 4 #[.val (.ref a1)] [])) st1 ?_
  refine own_st (T' := T1) (F' := (mkF m 5 #[.val (.ref a1)] [(.ref a1)])) (fun t k => XS.aloadN X1.here hx rfl (hb hby d5_4) rfl rfl k) ?_
  refine own_st (T' := T1) (F' := (mkF m 6 #[.val (.ref a1)] [(.int (0 : Int32)), (.ref a1)])) (fun t k => XS.iconst X1.here hx rfl (hb hby d5_5) k) ?_
  obtain ⟨T2, h2, X2, e2, W2, st2⟩ := putF X1 hx hZ hown (host := "") (Or.inl (hw _ (List.mem_of_getElem? (i := 43) rfl))) Via.refl e1 F_modCount E_a1 (Or.inl (hw _ (List.mem_of_getElem? (i := 44) rfl))) (hw _ (List.mem_of_getElem? (i := 25) rfl)) (ty := .int) (by decide) rfl rfl (g := (mkF m 6 #[.val (.ref a1)] [(.int (0 : Int32)), (.ref a1)])) rfl rfl (hb hby d5_6)
  have E_a1 := E_a1.wr W2
  have F_elementData := F_elementData.other W2 (Or.inr (slot_ne (Or.inl (hw _ (List.mem_of_getElem? (i := 47) rfl))) (Or.inl (hw _ (List.mem_of_getElem? (i := 44) rfl))) (by decide) (t := (.array (.object "java/lang/Object"))) (t' := .int) (by decide) (by decide)))
  have O := own_O_wr O W2 g_a1
  have N := Fr.snoc X2 N g_a1
  have KP := KP.wr W2 (Or.inl (List.mem_of_getElem? (i := 0) rfl))
  have F_modCount := F_modCount.same W2
  refine own_st (T' := T2) (F' := (mkF m 9 #[.val (.ref a1)] [])) st2 ?_
  exact own_retV X2 hx Bd.returns (hb hby d5_9) hlk (by show Q_rm5 Z a1 u_modCount u_elementData hu_elementData h0 _ T2.heap _; rw [e2]; exact ⟨rfl, N, KP, F_modCount, F_elementData⟩) (by decide) (by decide)
def Q_rm4 (Z : State) (w_dc : Addr) (a1 : Addr) (u_modCount : Int32) (u_elementData : Value) (hu_elementData : u_elementData.isRef = true) (h0 : Heap) (v : Option Value) (h : Heap) (L : List Loc) : Prop := v = none ∧ Fr Z.heap.size L ∧ Keep h0 h [a1] ∧ Fld Z h a1 "java/util/AbstractList" "modCount" "I" (.int (0 : Int32)) ∧ Fld Z h a1 "java/util/ArrayList" "elementData" "[Ljava/lang/Object;" (.ref w_dc)
theorem d4_0 : decode jdk_38_method_2_code 0 = .ok (.aload_n 0, 1) := by decide +kernel
theorem d4_1 : decode jdk_38_method_2_code 1 = .ok (.invokespecial 1, 3) := by decide +kernel
theorem d4_4 : decode jdk_38_method_2_code 4 = .ok (.aload_n 0, 1) := by decide +kernel
theorem d4_5 : decode jdk_38_method_2_code 5 = .ok (.getstatic 39, 3) := by decide +kernel
theorem d4_8 : decode jdk_38_method_2_code 8 = .ok (.putfield 9, 3) := by decide +kernel
theorem d4_11 : decode jdk_38_method_2_code 11 = .ok (.return_, 1) := by decide +kernel
theorem pn_3 : plainName "java/util/ArrayList" = true := by first | (simp [plainName, overriddenIn]; done) | decide +kernel
set_option maxRecDepth 65536 in
set_option maxHeartbeats 40000000 in
theorem rm4 (l : Launch) (Z : State) (a0 : Array Value) {w_FRONT : Addr} {w_PART : Addr} {w_DIVISION : Addr} {w_BACK : Addr} {w_CHAPTER : Addr} {w_ARTICLE : Addr} {w_SECTION : Addr} {w_RESERVED : Addr} {w_dc : Addr} {w_el : Addr} {mA : Addr} {mL : Addr} {mR : Addr} (CX : Ctx Z a0 w_FRONT w_PART w_DIVISION w_BACK w_CHAPTER w_ARTICLE w_SECTION w_RESERVED w_dc w_el mA mL mR) (ws : List Jvm.Cond) (a1 : Addr) (u_modCount : Int32) (u_elementData : Value) (hu_elementData : u_elementData.isRef = true) (h0 : Heap) (O : Ext Z.heap h0) (E_a1 : Exa Z h0 a1 "java/util/ArrayList") (g_a1 : Z.heap.size ≤ a1) (F_modCount : Fld Z h0 a1 "java/util/AbstractList" "modCount" "I" (.int u_modCount)) (F_elementData : Fld Z h0 a1 "java/util/ArrayList" "elementData" "[Ljava/lang/Object;" u_elementData) :
    MetFree l (⟨"java/util/ArrayList", "<init>", "()V"⟩ : MethodName) (head1 (Jvm.Cond.code (⟨"java/util/ArrayList", "<init>", "()V"⟩ : MethodName) jdk_38_method_2_code 1 none :: ws) ({ frames := 3, cells := 0, slots := 0, locals := 36 } : Room)) (fun a U => a = #[(.ref a1)] ∧ Z.Warmed39 U.vm ∧ U.heap = h0) (fun _ _ _ _ _ => True) (fun _ U o U' => ∃ v L, o = .returned v ∧ Q_rm4 Z w_dc a1 u_modCount u_elementData hu_elementData h0 v U'.heap L ∧ FrameEnd U o U' L ({ frames := 3, cells := 0, slots := 0, locals := 36 } : Room).cells ({ frames := 3, cells := 0, slots := 0, locals := 36 } : Room).slots) := by
  refine MetFree.of_bodySF (plainFor_of_name pn_3) hisR ?_
  intro p e s m args below meth c s₁ Bd hml0 hP hK
  obtain ⟨rfl, hZ, hh⟩ := hP
  have CX0 := CX
  obtain ⟨hw, S_FRONT, E_FRONT, S_PART, E_PART, S_DIVISION, E_DIVISION, S_BACK, E_BACK, S_CHAPTER, E_CHAPTER, S_ARTICLE, E_ARTICLE, S_SECTION, E_SECTION, S_RESERVED, E_RESERVED, O_PART, O_FRONT, O_DIVISION, O_BACK, O_CHAPTER, O_ARTICLE, O_SECTION, O_RESERVED, S_dc, S_el, MmA, MmL, MmR, -⟩ := CX0
  have hx := Bd.exec
  have hby := Bd.bytes
  have hml : c.maxLocals = 1 := hml0
  have hown : s.vm.findClass "java/util/ArrayList" = some m.cls := findClass_of_methodNamed Bd.named
  have hnm := (name_of_methodNamed Bd.named Bd.method).1
  have hlk : meth.locks = false := BodyLoose.notSynchronized Bd
  have X0 : Stand p l e ({ frames := 3, cells := 0, slots := 0, locals := 36 } : Room) s m #[(.ref a1)] below meth c s₁ [] 0 0 := Stand.of_body Bd
  have e0 : s₁.heap = h0 := by rw [← hh, Bd.state]; rfl
  have N := Fr.nil Z.heap.size
  show own_Done p.tables e below (own_R (Q_rm4 Z w_dc a1 u_modCount u_elementData hu_elementData h0) s 0 0) s₁ (entryFrame m #[(.ref a1)] 1)
  refine own_st (T' := s₁) (F' := (mkF m 0 #[.val (.ref a1)] [])) (fun t k => castTop (by first | rfl | (simp [entryFrame, mkF, argsToLocals, Value.category]; done)) k) ?_
  have KP := Keep.refl h0 [a1]
  refine own_st (T' := s₁) (F' := (mkF m 1 #[.val (.ref a1)] [(.ref a1)])) (fun t k => XS.aloadN X0.here hx rfl (hb hby d4_0) rfl rfl k) ?_
  obtain ⟨v1, _, ⟨T1, L1, k1, n1⟩, -, X1, ⟨Lc1, hQ1, l1, y1, z1⟩, st1⟩ := X0.specialBack hx (y := (⟨"java/util/AbstractList", "<init>", "()V"⟩ : MethodName)) rfl hown (mvT hZ (hw _ (List.mem_of_getElem? (i := 30) rfl))) (mvT hZ (hw _ (List.mem_of_getElem? (i := 31) rfl))) (mvT hZ (hw _ (List.mem_of_getElem? (i := 35) rfl))) (by decide) (backOf (W := 0) (rm5 l Z a0 CX [] a1 u_modCount u_elementData hu_elementData h0 O E_a1 g_a1 F_modCount F_elementData) hZ (hw _ (List.mem_of_getElem? (i := 35) rfl)) (hw _ (List.mem_of_getElem? (i := 34) rfl)) (by decide) (by decide)) (g := (mkF m 1 #[.val (.ref a1)] [(.ref a1)])) rfl (by rw [hml]; rfl) (Steps.refl _) (a := a1) (argsL := []) (rest := []) (lenOf pd_0 rfl) rfl (by show 2 * 0 + _ ≤ _; exact Nat.le_of_eq rfl) (hb hby d4_1) (fun _ _ => ⟨rfl, e0, (by decide : 0 + 0 ≤ _), (by decide : 0 + 0 ≤ _)⟩)
  dsimp only [Pt.U, Pt.locs, Pt.cells, Pt.slots] at X1 l1 y1 z1 st1 hQ1
  subst l1 y1 z1
  obtain ⟨rfl, N1q, K1, F_modCount_a1, F_elementData_a1⟩ := hQ1
  have N := Fr.app N N1q
  have E_a1 := E_a1.keep K1
  have O := own_O_keep O K1 (allS g_a1 all0)
  have KP := KP.trans K1 (allS (Or.inl (List.mem_of_getElem? (i := 0) rfl)) all0)
  refine own_tr (T' := T1) (F' := (mkF m 4 #[.val (.ref a1)] [])) st1 ?_
  refine own_st (T' := T1) (F' := (mkF m 5 #[.val (.ref a1)] [(.ref a1)])) (fun t k => XS.aloadN X1.here hx rfl (hb hby d4_4) rfl rfl k) ?_
  obtain ⟨T2, X2, e2, st2⟩ := getS2 X1 hx hZ hown (host := "") (Or.inl (hw _ (List.mem_of_getElem? (i := 45) rfl))) Via.refl rfl (S_dc.ext O) (g := (mkF m 5 #[.val (.ref a1)] [(.ref a1)])) rfl (hb hby d4_5)
  refine own_st (T' := T2) (F' := (mkF m 8 #[.val (.ref a1)] [(.ref w_dc), (.ref a1)])) st2 ?_
  obtain ⟨T3, h3, X3, e3, W3, st3⟩ := putF X2 hx hZ hown (host := "") (Or.inl (hw _ (List.mem_of_getElem? (i := 46) rfl))) Via.refl e2 F_elementData_a1 E_a1 (Or.inl (hw _ (List.mem_of_getElem? (i := 47) rfl))) (hw _ (List.mem_of_getElem? (i := 25) rfl)) (ty := (.array (.object "java/lang/Object"))) (by decide) rfl rfl (g := (mkF m 8 #[.val (.ref a1)] [(.ref w_dc), (.ref a1)])) rfl rfl (hb hby d4_8)
  have E_a1 := E_a1.wr W3
  have F_modCount_a1 := F_modCount_a1.other W3 (Or.inr (slot_ne (Or.inl (hw _ (List.mem_of_getElem? (i := 44) rfl))) (Or.inl (hw _ (List.mem_of_getElem? (i := 47) rfl))) (by decide) (t := .int) (t' := (.array (.object "java/lang/Object"))) (by decide) (by decide)))
  have O := own_O_wr O W3 g_a1
  have N := Fr.snoc X3 N g_a1
  have KP := KP.wr W3 (Or.inl (List.mem_of_getElem? (i := 0) rfl))
  have F_elementData_a1 := F_elementData_a1.same W3
  refine own_st (T' := T3) (F' := (mkF m 11 #[.val (.ref a1)] [])) st3 ?_
  exact own_retV X3 hx Bd.returns (hb hby d4_11) hlk (by show Q_rm4 Z w_dc a1 u_modCount u_elementData hu_elementData h0 _ T3.heap _; rw [e3]; exact ⟨rfl, N, KP, F_modCount_a1, F_elementData_a1⟩) (by decide) (by decide)
def Q_rm10 (Z : State) (a1 : Addr) (p1 : Addr) (u_c : Value) (hu_c : u_c.isRef = true) (u_list : Value) (hu_list : u_list.isRef = true) (h0 : Heap) (v : Option Value) (h : Heap) (L : List Loc) : Prop := v = none ∧ Fr Z.heap.size L ∧ Keep h0 h [a1] ∧ Fld Z h a1 "java/util/Collections$UnmodifiableCollection" "c" "Ljava/util/Collection;" (.ref p1) ∧ Fld Z h a1 "java/util/Collections$UnmodifiableList" "list" "Ljava/util/List;" u_list
theorem d10_0 : decode jdk_119_method_1_code 0 = .ok (.aload_n 0, 1) := by decide +kernel
theorem d10_1 : decode jdk_119_method_1_code 1 = .ok (.invokespecial 1, 3) := by decide +kernel
theorem d10_4 : decode jdk_119_method_1_code 4 = .ok (.aload_n 1, 1) := by decide +kernel
theorem d10_5 : decode jdk_119_method_1_code 5 = .ok (.ifnonnull 11, 3) := by decide +kernel
theorem d10_8 : decode jdk_119_method_1_code 8 = .ok (.new 7, 3) := by decide +kernel
theorem d10_11 : decode jdk_119_method_1_code 11 = .ok (.dup, 1) := by decide +kernel
theorem d10_12 : decode jdk_119_method_1_code 12 = .ok (.invokespecial 9, 3) := by decide +kernel
theorem d10_15 : decode jdk_119_method_1_code 15 = .ok (.athrow, 1) := by decide +kernel
theorem d10_16 : decode jdk_119_method_1_code 16 = .ok (.aload_n 0, 1) := by decide +kernel
theorem d10_17 : decode jdk_119_method_1_code 17 = .ok (.aload_n 1, 1) := by decide +kernel
theorem d10_18 : decode jdk_119_method_1_code 18 = .ok (.putfield 10, 3) := by decide +kernel
theorem d10_21 : decode jdk_119_method_1_code 21 = .ok (.return_, 1) := by decide +kernel
theorem pn_4 : plainName "java/util/Collections$UnmodifiableCollection" = true := by first | (simp [plainName, overriddenIn]; done) | decide +kernel
set_option maxRecDepth 65536 in
set_option maxHeartbeats 40000000 in
theorem rm10 (l : Launch) (Z : State) (a0 : Array Value) {w_FRONT : Addr} {w_PART : Addr} {w_DIVISION : Addr} {w_BACK : Addr} {w_CHAPTER : Addr} {w_ARTICLE : Addr} {w_SECTION : Addr} {w_RESERVED : Addr} {w_dc : Addr} {w_el : Addr} {mA : Addr} {mL : Addr} {mR : Addr} (CX : Ctx Z a0 w_FRONT w_PART w_DIVISION w_BACK w_CHAPTER w_ARTICLE w_SECTION w_RESERVED w_dc w_el mA mL mR) (ws : List Jvm.Cond) (a1 : Addr) (p1 : Addr) (u_c : Value) (hu_c : u_c.isRef = true) (u_list : Value) (hu_list : u_list.isRef = true) (h0 : Heap) (O : Ext Z.heap h0) (E_a1 : Exa Z h0 a1 "java/util/Collections$UnmodifiableRandomAccessList") (g_a1 : Z.heap.size ≤ a1) (F_c : Fld Z h0 a1 "java/util/Collections$UnmodifiableCollection" "c" "Ljava/util/Collection;" u_c) (F_list : Fld Z h0 a1 "java/util/Collections$UnmodifiableList" "list" "Ljava/util/List;" u_list) :
    MetFree l (⟨"java/util/Collections$UnmodifiableCollection", "<init>", "(Ljava/util/Collection;)V"⟩ : MethodName) (head1 (Jvm.Cond.code (⟨"java/util/Collections$UnmodifiableCollection", "<init>", "(Ljava/util/Collection;)V"⟩ : MethodName) jdk_119_method_1_code 2 none :: ws) ({ frames := 1, cells := 0, slots := 0, locals := 12 } : Room)) (fun a U => a = #[(.ref a1), (.ref p1)] ∧ Z.Warmed39 U.vm ∧ U.heap = h0) (fun _ _ _ _ _ => True) (fun _ U o U' => ∃ v L, o = .returned v ∧ Q_rm10 Z a1 p1 u_c hu_c u_list hu_list h0 v U'.heap L ∧ FrameEnd U o U' L ({ frames := 1, cells := 0, slots := 0, locals := 12 } : Room).cells ({ frames := 1, cells := 0, slots := 0, locals := 12 } : Room).slots) := by
  refine MetFree.of_bodySF (plainFor_of_name pn_4) hisR ?_
  intro p e s m args below meth c s₁ Bd hml0 hP hK
  obtain ⟨rfl, hZ, hh⟩ := hP
  have CX0 := CX
  obtain ⟨hw, S_FRONT, E_FRONT, S_PART, E_PART, S_DIVISION, E_DIVISION, S_BACK, E_BACK, S_CHAPTER, E_CHAPTER, S_ARTICLE, E_ARTICLE, S_SECTION, E_SECTION, S_RESERVED, E_RESERVED, O_PART, O_FRONT, O_DIVISION, O_BACK, O_CHAPTER, O_ARTICLE, O_SECTION, O_RESERVED, S_dc, S_el, MmA, MmL, MmR, -⟩ := CX0
  have hx := Bd.exec
  have hby := Bd.bytes
  have hml : c.maxLocals = 2 := hml0
  have hown : s.vm.findClass "java/util/Collections$UnmodifiableCollection" = some m.cls := findClass_of_methodNamed Bd.named
  have hnm := (name_of_methodNamed Bd.named Bd.method).1
  have hlk : meth.locks = false := BodyLoose.notSynchronized Bd
  have X0 : Stand p l e ({ frames := 1, cells := 0, slots := 0, locals := 12 } : Room) s m #[(.ref a1), (.ref p1)] below meth c s₁ [] 0 0 := Stand.of_body Bd
  have e0 : s₁.heap = h0 := by rw [← hh, Bd.state]; rfl
  have N := Fr.nil Z.heap.size
  show own_Done p.tables e below (own_R (Q_rm10 Z a1 p1 u_c hu_c u_list hu_list h0) s 0 0) s₁ (entryFrame m #[(.ref a1), (.ref p1)] 2)
  refine own_st (T' := s₁) (F' := (mkF m 0 #[.val (.ref a1), .val (.ref p1)] [])) (fun t k => castTop (by first | rfl | (simp [entryFrame, mkF, argsToLocals, Value.category]; done)) k) ?_
  have KP := Keep.refl h0 [a1]
  refine own_st (T' := s₁) (F' := (mkF m 1 #[.val (.ref a1), .val (.ref p1)] [(.ref a1)])) (fun t k => XS.aloadN X0.here hx rfl (hb hby d10_0) rfl rfl k) ?_
  obtain ⟨T1, X1, e1, st1⟩ := initO X0 hx hZ hown (hw _ (List.mem_of_getElem? (i := 88) rfl)) (hw _ (List.mem_of_getElem? (i := 22) rfl)) (hw _ (List.mem_of_getElem? (i := 23) rfl)) e0 (g := (mkF m 1 #[.val (.ref a1), .val (.ref p1)] [(.ref a1)])) rfl (by rw [hml]; rfl) rfl (hb hby d10_1) (by decide) (W := 0) (by show 2 * 0 + _ ≤ _; exact Nat.le_of_eq rfl) (by decide)
  refine own_st (T' := T1) (F' := (mkF m 4 #[.val (.ref a1), .val (.ref p1)] [])) st1 ?_
  refine own_st (T' := T1) (F' := (mkF m 5 #[.val (.ref a1), .val (.ref p1)] [(.ref p1)])) (fun t k => XS.aloadN X1.here hx rfl (hb hby d10_4) rfl rfl k) ?_
  refine own_st (T' := T1) (F' := (mkF m 16 #[.val (.ref a1), .val (.ref p1)] [])) (fun t k => XS.ifnonnullYes X1.here hx rfl (pc0 := 5) (pc' := 16) rfl (hb hby d10_5) rfl (by decide) (by decide) k) ?_
  refine own_st (T' := T1) (F' := (mkF m 17 #[.val (.ref a1), .val (.ref p1)] [(.ref a1)])) (fun t k => XS.aloadN X1.here hx rfl (hb hby d10_16) rfl rfl k) ?_
  refine own_st (T' := T1) (F' := (mkF m 18 #[.val (.ref a1), .val (.ref p1)] [(.ref p1), (.ref a1)])) (fun t k => XS.aloadN X1.here hx rfl (hb hby d10_17) rfl rfl k) ?_
  obtain ⟨T2, h2, X2, e2, W2, st2⟩ := putF X1 hx hZ hown (host := "") (Or.inl (hw _ (List.mem_of_getElem? (i := 89) rfl))) Via.refl e1 F_c E_a1 (Or.inr ⟨(hw _ (List.mem_of_getElem? (i := 90) rfl)), rfl, hnm⟩) (hw _ (List.mem_of_getElem? (i := 71) rfl)) (ty := (.object "java/util/Collection")) (by decide) rfl rfl (g := (mkF m 18 #[.val (.ref a1), .val (.ref p1)] [(.ref p1), (.ref a1)])) rfl rfl (hb hby d10_18)
  have E_a1 := E_a1.wr W2
  have F_list := F_list.other W2 (Or.inr (slot_ne (Or.inr (hw _ (List.mem_of_getElem? (i := 92) rfl))) (Or.inr (hw _ (List.mem_of_getElem? (i := 90) rfl))) (by decide) (t := (.object "java/util/List")) (t' := (.object "java/util/Collection")) (by decide) (by decide)))
  have O := own_O_wr O W2 g_a1
  have N := Fr.snoc X2 N g_a1
  have KP := KP.wr W2 (Or.inl (List.mem_of_getElem? (i := 0) rfl))
  have F_c := F_c.same W2
  refine own_st (T' := T2) (F' := (mkF m 21 #[.val (.ref a1), .val (.ref p1)] [])) st2 ?_
  exact own_retV X2 hx Bd.returns (hb hby d10_21) hlk (by show Q_rm10 Z a1 p1 u_c hu_c u_list hu_list h0 _ T2.heap _; rw [e2]; exact ⟨rfl, N, KP, F_c, F_list⟩) (by decide) (by decide)
def Q_rm9 (Z : State) (a1 : Addr) (p1 : Addr) (u_c : Value) (hu_c : u_c.isRef = true) (u_list : Value) (hu_list : u_list.isRef = true) (h0 : Heap) (v : Option Value) (h : Heap) (L : List Loc) : Prop := v = none ∧ Fr Z.heap.size L ∧ Keep h0 h [a1] ∧ Fld Z h a1 "java/util/Collections$UnmodifiableCollection" "c" "Ljava/util/Collection;" (.ref p1) ∧ Fld Z h a1 "java/util/Collections$UnmodifiableList" "list" "Ljava/util/List;" (.ref p1)
theorem d9_0 : decode jdk_120_method_1_code 0 = .ok (.aload_n 0, 1) := by decide +kernel
theorem d9_1 : decode jdk_120_method_1_code 1 = .ok (.aload_n 1, 1) := by decide +kernel
theorem d9_2 : decode jdk_120_method_1_code 2 = .ok (.invokespecial 1, 3) := by decide +kernel
theorem d9_5 : decode jdk_120_method_1_code 5 = .ok (.aload_n 0, 1) := by decide +kernel
theorem d9_6 : decode jdk_120_method_1_code 6 = .ok (.aload_n 1, 1) := by decide +kernel
theorem d9_7 : decode jdk_120_method_1_code 7 = .ok (.putfield 7, 3) := by decide +kernel
theorem d9_10 : decode jdk_120_method_1_code 10 = .ok (.return_, 1) := by decide +kernel
theorem pn_5 : plainName "java/util/Collections$UnmodifiableList" = true := by first | (simp [plainName, overriddenIn]; done) | decide +kernel
theorem pd_1 : parseMethodDescriptor "(Ljava/util/Collection;)V" = some ⟨[(.object "java/util/Collection")], none⟩ := by decide +kernel
set_option maxRecDepth 65536 in
set_option maxHeartbeats 40000000 in
theorem rm9 (l : Launch) (Z : State) (a0 : Array Value) {w_FRONT : Addr} {w_PART : Addr} {w_DIVISION : Addr} {w_BACK : Addr} {w_CHAPTER : Addr} {w_ARTICLE : Addr} {w_SECTION : Addr} {w_RESERVED : Addr} {w_dc : Addr} {w_el : Addr} {mA : Addr} {mL : Addr} {mR : Addr} (CX : Ctx Z a0 w_FRONT w_PART w_DIVISION w_BACK w_CHAPTER w_ARTICLE w_SECTION w_RESERVED w_dc w_el mA mL mR) (ws : List Jvm.Cond) (a1 : Addr) (p1 : Addr) (u_c : Value) (hu_c : u_c.isRef = true) (u_list : Value) (hu_list : u_list.isRef = true) (h0 : Heap) (O : Ext Z.heap h0) (E_a1 : Exa Z h0 a1 "java/util/Collections$UnmodifiableRandomAccessList") (g_a1 : Z.heap.size ≤ a1) (F_c : Fld Z h0 a1 "java/util/Collections$UnmodifiableCollection" "c" "Ljava/util/Collection;" u_c) (F_list : Fld Z h0 a1 "java/util/Collections$UnmodifiableList" "list" "Ljava/util/List;" u_list) :
    MetFree l (⟨"java/util/Collections$UnmodifiableList", "<init>", "(Ljava/util/List;)V"⟩ : MethodName) (head1 (Jvm.Cond.code (⟨"java/util/Collections$UnmodifiableList", "<init>", "(Ljava/util/List;)V"⟩ : MethodName) jdk_120_method_1_code 2 none :: ws) ({ frames := 2, cells := 0, slots := 0, locals := 25 } : Room)) (fun a U => a = #[(.ref a1), (.ref p1)] ∧ Z.Warmed39 U.vm ∧ U.heap = h0) (fun _ _ _ _ _ => True) (fun _ U o U' => ∃ v L, o = .returned v ∧ Q_rm9 Z a1 p1 u_c hu_c u_list hu_list h0 v U'.heap L ∧ FrameEnd U o U' L ({ frames := 2, cells := 0, slots := 0, locals := 25 } : Room).cells ({ frames := 2, cells := 0, slots := 0, locals := 25 } : Room).slots) := by
  refine MetFree.of_bodySF (plainFor_of_name pn_5) hisR ?_
  intro p e s m args below meth c s₁ Bd hml0 hP hK
  obtain ⟨rfl, hZ, hh⟩ := hP
  have CX0 := CX
  obtain ⟨hw, S_FRONT, E_FRONT, S_PART, E_PART, S_DIVISION, E_DIVISION, S_BACK, E_BACK, S_CHAPTER, E_CHAPTER, S_ARTICLE, E_ARTICLE, S_SECTION, E_SECTION, S_RESERVED, E_RESERVED, O_PART, O_FRONT, O_DIVISION, O_BACK, O_CHAPTER, O_ARTICLE, O_SECTION, O_RESERVED, S_dc, S_el, MmA, MmL, MmR, -⟩ := CX0
  have hx := Bd.exec
  have hby := Bd.bytes
  have hml : c.maxLocals = 2 := hml0
  have hown : s.vm.findClass "java/util/Collections$UnmodifiableList" = some m.cls := findClass_of_methodNamed Bd.named
  have hnm := (name_of_methodNamed Bd.named Bd.method).1
  have hlk : meth.locks = false := BodyLoose.notSynchronized Bd
  have X0 : Stand p l e ({ frames := 2, cells := 0, slots := 0, locals := 25 } : Room) s m #[(.ref a1), (.ref p1)] below meth c s₁ [] 0 0 := Stand.of_body Bd
  have e0 : s₁.heap = h0 := by rw [← hh, Bd.state]; rfl
  have N := Fr.nil Z.heap.size
  show own_Done p.tables e below (own_R (Q_rm9 Z a1 p1 u_c hu_c u_list hu_list h0) s 0 0) s₁ (entryFrame m #[(.ref a1), (.ref p1)] 2)
  refine own_st (T' := s₁) (F' := (mkF m 0 #[.val (.ref a1), .val (.ref p1)] [])) (fun t k => castTop (by first | rfl | (simp [entryFrame, mkF, argsToLocals, Value.category]; done)) k) ?_
  have KP := Keep.refl h0 [a1]
  refine own_st (T' := s₁) (F' := (mkF m 1 #[.val (.ref a1), .val (.ref p1)] [(.ref a1)])) (fun t k => XS.aloadN X0.here hx rfl (hb hby d9_0) rfl rfl k) ?_
  refine own_st (T' := s₁) (F' := (mkF m 2 #[.val (.ref a1), .val (.ref p1)] [(.ref p1), (.ref a1)])) (fun t k => XS.aloadN X0.here hx rfl (hb hby d9_1) rfl rfl k) ?_
  obtain ⟨v1, _, ⟨T1, L1, k1, n1⟩, -, X1, ⟨Lc1, hQ1, l1, y1, z1⟩, st1⟩ := X0.specialBack hx (y := (⟨"java/util/Collections$UnmodifiableCollection", "<init>", "(Ljava/util/Collection;)V"⟩ : MethodName)) rfl hown (mvT hZ (hw _ (List.mem_of_getElem? (i := 82) rfl))) (mvT hZ (hw _ (List.mem_of_getElem? (i := 83) rfl))) (mvT hZ (hw _ (List.mem_of_getElem? (i := 87) rfl))) (by decide) (backOf (W := 0) (rm10 l Z a0 CX [] a1 p1 u_c hu_c u_list hu_list h0 O E_a1 g_a1 F_c F_list) hZ (hw _ (List.mem_of_getElem? (i := 87) rfl)) (hw _ (List.mem_of_getElem? (i := 86) rfl)) (by decide) (by decide)) (g := (mkF m 2 #[.val (.ref a1), .val (.ref p1)] [(.ref p1), (.ref a1)])) rfl (by rw [hml]; rfl) (Steps.refl _) (a := a1) (argsL := [(.ref p1)]) (rest := []) (lenOf pd_1 rfl) rfl (by show 2 * 0 + _ ≤ _; exact Nat.le_of_eq rfl) (hb hby d9_2) (fun _ _ => ⟨rfl, e0, (by decide : 0 + 0 ≤ _), (by decide : 0 + 0 ≤ _)⟩)
  dsimp only [Pt.U, Pt.locs, Pt.cells, Pt.slots] at X1 l1 y1 z1 st1 hQ1
  subst l1 y1 z1
  obtain ⟨rfl, N1q, K1, F_c_a1, F_list_a1⟩ := hQ1
  have N := Fr.app N N1q
  have E_a1 := E_a1.keep K1
  have O := own_O_keep O K1 (allS g_a1 all0)
  have KP := KP.trans K1 (allS (Or.inl (List.mem_of_getElem? (i := 0) rfl)) all0)
  refine own_tr (T' := T1) (F' := (mkF m 5 #[.val (.ref a1), .val (.ref p1)] [])) st1 ?_
  refine own_st (T' := T1) (F' := (mkF m 6 #[.val (.ref a1), .val (.ref p1)] [(.ref a1)])) (fun t k => XS.aloadN X1.here hx rfl (hb hby d9_5) rfl rfl k) ?_
  refine own_st (T' := T1) (F' := (mkF m 7 #[.val (.ref a1), .val (.ref p1)] [(.ref p1), (.ref a1)])) (fun t k => XS.aloadN X1.here hx rfl (hb hby d9_6) rfl rfl k) ?_
  obtain ⟨T2, h2, X2, e2, W2, st2⟩ := putF X1 hx hZ hown (host := "") (Or.inl (hw _ (List.mem_of_getElem? (i := 91) rfl))) Via.refl rfl F_list_a1 E_a1 (Or.inr ⟨(hw _ (List.mem_of_getElem? (i := 92) rfl)), rfl, hnm⟩) (hw _ (List.mem_of_getElem? (i := 71) rfl)) (ty := (.object "java/util/List")) (by decide) rfl rfl (g := (mkF m 7 #[.val (.ref a1), .val (.ref p1)] [(.ref p1), (.ref a1)])) rfl rfl (hb hby d9_7)
  have E_a1 := E_a1.wr W2
  have F_c_a1 := F_c_a1.other W2 (Or.inr (slot_ne (Or.inr (hw _ (List.mem_of_getElem? (i := 90) rfl))) (Or.inr (hw _ (List.mem_of_getElem? (i := 92) rfl))) (by decide) (t := (.object "java/util/Collection")) (t' := (.object "java/util/List")) (by decide) (by decide)))
  have O := own_O_wr O W2 g_a1
  have N := Fr.snoc X2 N g_a1
  have KP := KP.wr W2 (Or.inl (List.mem_of_getElem? (i := 0) rfl))
  have F_list_a1 := F_list_a1.same W2
  refine own_st (T' := T2) (F' := (mkF m 10 #[.val (.ref a1), .val (.ref p1)] [])) st2 ?_
  exact own_retV X2 hx Bd.returns (hb hby d9_10) hlk (by show Q_rm9 Z a1 p1 u_c hu_c u_list hu_list h0 _ T2.heap _; rw [e2]; exact ⟨rfl, N, KP, F_c_a1, F_list_a1⟩) (by decide) (by decide)
def Q_rm8 (Z : State) (a1 : Addr) (p1 : Addr) (u_c : Value) (hu_c : u_c.isRef = true) (u_list : Value) (hu_list : u_list.isRef = true) (h0 : Heap) (v : Option Value) (h : Heap) (L : List Loc) : Prop := v = none ∧ Fr Z.heap.size L ∧ Keep h0 h [a1] ∧ Fld Z h a1 "java/util/Collections$UnmodifiableCollection" "c" "Ljava/util/Collection;" (.ref p1) ∧ Fld Z h a1 "java/util/Collections$UnmodifiableList" "list" "Ljava/util/List;" (.ref p1)
theorem d8_0 : decode jdk_121_method_1_code 0 = .ok (.aload_n 0, 1) := by decide +kernel
theorem d8_1 : decode jdk_121_method_1_code 1 = .ok (.aload_n 1, 1) := by decide +kernel
theorem d8_2 : decode jdk_121_method_1_code 2 = .ok (.invokespecial 1, 3) := by decide +kernel
theorem d8_5 : decode jdk_121_method_1_code 5 = .ok (.return_, 1) := by decide +kernel
theorem pn_6 : plainName "java/util/Collections$UnmodifiableRandomAccessList" = true := by first | (simp [plainName, overriddenIn]; done) | decide +kernel
theorem pd_2 : parseMethodDescriptor "(Ljava/util/List;)V" = some ⟨[(.object "java/util/List")], none⟩ := by decide +kernel
set_option maxRecDepth 65536 in
set_option maxHeartbeats 40000000 in
theorem rm8 (l : Launch) (Z : State) (a0 : Array Value) {w_FRONT : Addr} {w_PART : Addr} {w_DIVISION : Addr} {w_BACK : Addr} {w_CHAPTER : Addr} {w_ARTICLE : Addr} {w_SECTION : Addr} {w_RESERVED : Addr} {w_dc : Addr} {w_el : Addr} {mA : Addr} {mL : Addr} {mR : Addr} (CX : Ctx Z a0 w_FRONT w_PART w_DIVISION w_BACK w_CHAPTER w_ARTICLE w_SECTION w_RESERVED w_dc w_el mA mL mR) (ws : List Jvm.Cond) (a1 : Addr) (p1 : Addr) (u_c : Value) (hu_c : u_c.isRef = true) (u_list : Value) (hu_list : u_list.isRef = true) (h0 : Heap) (O : Ext Z.heap h0) (E_a1 : Exa Z h0 a1 "java/util/Collections$UnmodifiableRandomAccessList") (g_a1 : Z.heap.size ≤ a1) (F_c : Fld Z h0 a1 "java/util/Collections$UnmodifiableCollection" "c" "Ljava/util/Collection;" u_c) (F_list : Fld Z h0 a1 "java/util/Collections$UnmodifiableList" "list" "Ljava/util/List;" u_list) :
    MetFree l (⟨"java/util/Collections$UnmodifiableRandomAccessList", "<init>", "(Ljava/util/List;)V"⟩ : MethodName) (head1 (Jvm.Cond.code (⟨"java/util/Collections$UnmodifiableRandomAccessList", "<init>", "(Ljava/util/List;)V"⟩ : MethodName) jdk_121_method_1_code 2 none :: ws) ({ frames := 3, cells := 0, slots := 0, locals := 38 } : Room)) (fun a U => a = #[(.ref a1), (.ref p1)] ∧ Z.Warmed39 U.vm ∧ U.heap = h0) (fun _ _ _ _ _ => True) (fun _ U o U' => ∃ v L, o = .returned v ∧ Q_rm8 Z a1 p1 u_c hu_c u_list hu_list h0 v U'.heap L ∧ FrameEnd U o U' L ({ frames := 3, cells := 0, slots := 0, locals := 38 } : Room).cells ({ frames := 3, cells := 0, slots := 0, locals := 38 } : Room).slots) := by
  refine MetFree.of_bodySF (plainFor_of_name pn_6) hisR ?_
  intro p e s m args below meth c s₁ Bd hml0 hP hK
  obtain ⟨rfl, hZ, hh⟩ := hP
  have CX0 := CX
  obtain ⟨hw, S_FRONT, E_FRONT, S_PART, E_PART, S_DIVISION, E_DIVISION, S_BACK, E_BACK, S_CHAPTER, E_CHAPTER, S_ARTICLE, E_ARTICLE, S_SECTION, E_SECTION, S_RESERVED, E_RESERVED, O_PART, O_FRONT, O_DIVISION, O_BACK, O_CHAPTER, O_ARTICLE, O_SECTION, O_RESERVED, S_dc, S_el, MmA, MmL, MmR, -⟩ := CX0
  have hx := Bd.exec
  have hby := Bd.bytes
  have hml : c.maxLocals = 2 := hml0
  have hown : s.vm.findClass "java/util/Collections$UnmodifiableRandomAccessList" = some m.cls := findClass_of_methodNamed Bd.named
  have hnm := (name_of_methodNamed Bd.named Bd.method).1
  have hlk : meth.locks = false := BodyLoose.notSynchronized Bd
  have X0 : Stand p l e ({ frames := 3, cells := 0, slots := 0, locals := 38 } : Room) s m #[(.ref a1), (.ref p1)] below meth c s₁ [] 0 0 := Stand.of_body Bd
  have e0 : s₁.heap = h0 := by rw [← hh, Bd.state]; rfl
  have N := Fr.nil Z.heap.size
  show own_Done p.tables e below (own_R (Q_rm8 Z a1 p1 u_c hu_c u_list hu_list h0) s 0 0) s₁ (entryFrame m #[(.ref a1), (.ref p1)] 2)
  refine own_st (T' := s₁) (F' := (mkF m 0 #[.val (.ref a1), .val (.ref p1)] [])) (fun t k => castTop (by first | rfl | (simp [entryFrame, mkF, argsToLocals, Value.category]; done)) k) ?_
  have KP := Keep.refl h0 [a1]
  refine own_st (T' := s₁) (F' := (mkF m 1 #[.val (.ref a1), .val (.ref p1)] [(.ref a1)])) (fun t k => XS.aloadN X0.here hx rfl (hb hby d8_0) rfl rfl k) ?_
  refine own_st (T' := s₁) (F' := (mkF m 2 #[.val (.ref a1), .val (.ref p1)] [(.ref p1), (.ref a1)])) (fun t k => XS.aloadN X0.here hx rfl (hb hby d8_1) rfl rfl k) ?_
  obtain ⟨v1, _, ⟨T1, L1, k1, n1⟩, -, X1, ⟨Lc1, hQ1, l1, y1, z1⟩, st1⟩ := X0.specialBack hx (y := (⟨"java/util/Collections$UnmodifiableList", "<init>", "(Ljava/util/List;)V"⟩ : MethodName)) rfl hown (mvT hZ (hw _ (List.mem_of_getElem? (i := 76) rfl))) (mvT hZ (hw _ (List.mem_of_getElem? (i := 77) rfl))) (mvT hZ (hw _ (List.mem_of_getElem? (i := 81) rfl))) (by decide) (backOf (W := 0) (rm9 l Z a0 CX [] a1 p1 u_c hu_c u_list hu_list h0 O E_a1 g_a1 F_c F_list) hZ (hw _ (List.mem_of_getElem? (i := 81) rfl)) (hw _ (List.mem_of_getElem? (i := 80) rfl)) (by decide) (by decide)) (g := (mkF m 2 #[.val (.ref a1), .val (.ref p1)] [(.ref p1), (.ref a1)])) rfl (by rw [hml]; rfl) (Steps.refl _) (a := a1) (argsL := [(.ref p1)]) (rest := []) (lenOf pd_2 rfl) rfl (by show 2 * 0 + _ ≤ _; exact Nat.le_of_eq rfl) (hb hby d8_2) (fun _ _ => ⟨rfl, e0, (by decide : 0 + 0 ≤ _), (by decide : 0 + 0 ≤ _)⟩)
  dsimp only [Pt.U, Pt.locs, Pt.cells, Pt.slots] at X1 l1 y1 z1 st1 hQ1
  subst l1 y1 z1
  obtain ⟨rfl, N1q, K1, F_c_a1, F_list_a1⟩ := hQ1
  have N := Fr.app N N1q
  have E_a1 := E_a1.keep K1
  have O := own_O_keep O K1 (allS g_a1 all0)
  have KP := KP.trans K1 (allS (Or.inl (List.mem_of_getElem? (i := 0) rfl)) all0)
  refine own_tr (T' := T1) (F' := (mkF m 5 #[.val (.ref a1), .val (.ref p1)] [])) st1 ?_
  exact own_retV X1 hx Bd.returns (hb hby d8_5) hlk (⟨rfl, N, KP, F_c_a1, F_list_a1⟩) (by decide) (by decide)
theorem d7_0 : decode jdk_79_method_35_code 0 = .ok (.aload_n 0, 1) := by decide +kernel
theorem d7_1 : decode jdk_79_method_35_code 1 = .ok (.invokeinterface 211 1, 5) := by decide +kernel
theorem d7_6 : decode jdk_79_method_35_code 6 = .ok (.ldc 212, 2) := by decide +kernel
theorem d7_8 : decode jdk_79_method_35_code 8 = .ok (.if_acmp .eq 14, 3) := by decide +kernel
theorem d7_11 : decode jdk_79_method_35_code 11 = .ok (.aload_n 0, 1) := by decide +kernel
theorem d7_12 : decode jdk_79_method_35_code 12 = .ok (.invokeinterface 214 1, 5) := by decide +kernel
theorem d7_17 : decode jdk_79_method_35_code 17 = .ok (.ldc 215, 2) := by decide +kernel
theorem d7_19 : decode jdk_79_method_35_code 19 = .ok (.if_acmp .ne 5, 3) := by decide +kernel
theorem d7_22 : decode jdk_79_method_35_code 22 = .ok (.aload_n 0, 1) := by decide +kernel
theorem d7_23 : decode jdk_79_method_35_code 23 = .ok (.areturn, 1) := by decide +kernel
theorem d7_24 : decode jdk_79_method_35_code 24 = .ok (.aload_n 0, 1) := by decide +kernel
theorem d7_25 : decode jdk_79_method_35_code 25 = .ok (.instanceof 13, 3) := by decide +kernel
theorem d7_28 : decode jdk_79_method_35_code 28 = .ok (.ifCond .eq 14, 3) := by decide +kernel
theorem d7_31 : decode jdk_79_method_35_code 31 = .ok (.new 215, 3) := by decide +kernel
theorem d7_34 : decode jdk_79_method_35_code 34 = .ok (.dup, 1) := by decide +kernel
theorem d7_35 : decode jdk_79_method_35_code 35 = .ok (.aload_n 0, 1) := by decide +kernel
theorem d7_36 : decode jdk_79_method_35_code 36 = .ok (.invokespecial 217, 3) := by decide +kernel
theorem d7_39 : decode jdk_79_method_35_code 39 = .ok (.goto 11, 3) := by decide +kernel
theorem d7_42 : decode jdk_79_method_35_code 42 = .ok (.new 212, 3) := by decide +kernel
theorem d7_45 : decode jdk_79_method_35_code 45 = .ok (.dup, 1) := by decide +kernel
theorem d7_46 : decode jdk_79_method_35_code 46 = .ok (.aload_n 0, 1) := by decide +kernel
theorem d7_47 : decode jdk_79_method_35_code 47 = .ok (.invokespecial 219, 3) := by decide +kernel
theorem d7_50 : decode jdk_79_method_35_code 50 = .ok (.areturn, 1) := by decide +kernel
theorem pn_7 : plainName "java/util/Collections" = true := by first | (simp [plainName, overriddenIn]; done) | decide +kernel
set_option maxRecDepth 65536 in
set_option maxHeartbeats 40000000 in
theorem rm7 (l : Launch) (Z : State) (a0 : Array Value) {w_FRONT : Addr} {w_PART : Addr} {w_DIVISION : Addr} {w_BACK : Addr} {w_CHAPTER : Addr} {w_ARTICLE : Addr} {w_SECTION : Addr} {w_RESERVED : Addr} {w_dc : Addr} {w_el : Addr} {mA : Addr} {mL : Addr} {mR : Addr} (CX : Ctx Z a0 w_FRONT w_PART w_DIVISION w_BACK w_CHAPTER w_ARTICLE w_SECTION w_RESERVED w_dc w_el mA mL mR) (ws : List Jvm.Cond) (a1 : Addr) (h0 : Heap) (O : Ext Z.heap h0) (E_a1 : Exa Z h0 a1 "java/util/ArrayList") :
    MetFree l (⟨"java/util/Collections", "unmodifiableList", "(Ljava/util/List;)Ljava/util/List;"⟩ : MethodName) (head1 (Jvm.Cond.code (⟨"java/util/Collections", "unmodifiableList", "(Ljava/util/List;)Ljava/util/List;"⟩ : MethodName) jdk_79_method_35_code 1 (some (.object "java/util/List")) :: ws) ({ frames := 4, cells := 1, slots := 2, locals := 52 } : Room)) (fun a U => a = #[(.ref a1)] ∧ Z.Warmed39 U.vm ∧ U.heap = h0) (fun _ _ _ _ _ => True) (fun _ U o U' => ∃ v L, o = .returned v ∧ QX Z h0 v U'.heap L ∧ FrameEnd U o U' L ({ frames := 4, cells := 1, slots := 2, locals := 52 } : Room).cells ({ frames := 4, cells := 1, slots := 2, locals := 52 } : Room).slots) := by
  refine MetFree.of_bodySF (plainFor_of_name pn_7) hisR ?_
  intro p e s m args below meth c s₁ Bd hml0 hP hK
  obtain ⟨rfl, hZ, hh⟩ := hP
  have CX0 := CX
  obtain ⟨hw, S_FRONT, E_FRONT, S_PART, E_PART, S_DIVISION, E_DIVISION, S_BACK, E_BACK, S_CHAPTER, E_CHAPTER, S_ARTICLE, E_ARTICLE, S_SECTION, E_SECTION, S_RESERVED, E_RESERVED, O_PART, O_FRONT, O_DIVISION, O_BACK, O_CHAPTER, O_ARTICLE, O_SECTION, O_RESERVED, S_dc, S_el, MmA, MmL, MmR, -⟩ := CX0
  have hx := Bd.exec
  have hby := Bd.bytes
  have hml : c.maxLocals = 1 := hml0
  have hown : s.vm.findClass "java/util/Collections" = some m.cls := findClass_of_methodNamed Bd.named
  have hnm := (name_of_methodNamed Bd.named Bd.method).1
  have hlk : meth.locks = false := BodyLoose.notSynchronized Bd
  have X0 : Stand p l e ({ frames := 4, cells := 1, slots := 2, locals := 52 } : Room) s m #[(.ref a1)] below meth c s₁ [] 0 0 := Stand.of_body Bd
  have e0 : s₁.heap = h0 := by rw [← hh, Bd.state]; rfl
  have N := Fr.nil Z.heap.size
  show own_Done p.tables e below (own_R (QX Z h0) s 1 2) s₁ (entryFrame m #[(.ref a1)] 1)
  refine own_st (T' := s₁) (F' := (mkF m 0 #[.val (.ref a1)] [])) (fun t k => castTop (by first | rfl | (simp [entryFrame, mkF, argsToLocals, Value.category]; done)) k) ?_
  have KP := Keep.refl h0 []
  refine own_st (T' := s₁) (F' := (mkF m 1 #[.val (.ref a1)] [(.ref a1)])) (fun t k => XS.aloadN X0.here hx rfl (hb hby d7_0) rfl rfl k) ?_
  obtain ⟨T1, X1, e1, st1⟩ := own_gcI X0 hx hZ hown (hw _ (List.mem_of_getElem? (i := 54) rfl)) (hw _ (List.mem_of_getElem? (i := 55) rfl)) (hw _ (List.mem_of_getElem? (i := 56) rfl)) (hw _ (List.mem_of_getElem? (i := 57) rfl)) (hw _ (List.mem_of_getElem? (i := 58) rfl)) (hw _ (List.mem_of_getElem? (i := 59) rfl)) (hw _ (List.mem_of_getElem? (i := 60) rfl)) (hw _ (List.mem_of_getElem? (i := 61) rfl)) (hw _ (List.mem_of_getElem? (i := 62) rfl)) e0 E_a1 MmA (g := (mkF m 1 #[.val (.ref a1)] [(.ref a1)])) rfl (by rw [hml]; rfl) rfl (hb hby d7_1) (by decide) (by show 2 * 0 + 0 + (nativeFrameWords "java/lang/Object" "getClass" 1 + 11) ≤ 52; decide)
  refine own_st (T' := T1) (F' := (mkF m 6 #[.val (.ref a1)] [(.ref mA)])) st1 ?_
  obtain ⟨T2, X2, e2, st2⟩ := own_ldcM X1 hx hZ hown (hw _ (List.mem_of_getElem? (i := 64) rfl)) e1 MmL (g := (mkF m 6 #[.val (.ref a1)] [(.ref mA)])) rfl (hb hby d7_6)
  refine own_st (T' := T2) (F' := (mkF m 8 #[.val (.ref a1)] [(.ref mL), (.ref mA)])) st2 ?_
  by_cases ha8_3 : mA = mL
  · refine own_st (T' := T2) (F' := (mkF m 22 #[.val (.ref a1)] [])) (fun t k => Jvm.RoadKit.acmp (g := (mkF m 8 #[.val (.ref a1)] [(.ref mL), (.ref mA)])) X2 hx rfl rfl rfl (pc0 := 8) (pc' := 22) (same := true) rfl (hb hby d7_8) rfl (decide_eq_true (congrArg Value.ref ha8_3)) (by decide) (by decide) k) ?_
    refine own_st (T' := T2) (F' := (mkF m 23 #[.val (.ref a1)] [(.ref a1)])) (fun t k => XS.aloadN X2.here hx rfl (hb hby d7_22) rfl rfl k) ?_
    exact own_retA X2 hx (t := (.object "java/util/List")) Bd.returns rfl rfl (hb hby d7_23) hlk (by show QX Z h0 _ T2.heap _; rw [e2]; exact ⟨_, rfl, N, own_ext_keep KP⟩) (by decide) (by decide)
  · refine own_st (T' := T2) (F' := (mkF m 11 #[.val (.ref a1)] [])) (fun t k => Jvm.RoadKit.acmp (g := (mkF m 8 #[.val (.ref a1)] [(.ref mL), (.ref mA)])) X2 hx rfl rfl rfl (pc0 := 8) (pc' := 11) (same := false) rfl (hb hby d7_8) rfl (decide_eq_false fun q => ha8_3 (Value.ref.inj q)) (by decide) (by decide) k) ?_
    refine own_st (T' := T2) (F' := (mkF m 12 #[.val (.ref a1)] [(.ref a1)])) (fun t k => XS.aloadN X2.here hx rfl (hb hby d7_11) rfl rfl k) ?_
    obtain ⟨T4, X4, e4, st4⟩ := own_gcI X2 hx hZ hown (hw _ (List.mem_of_getElem? (i := 66) rfl)) (hw _ (List.mem_of_getElem? (i := 55) rfl)) (hw _ (List.mem_of_getElem? (i := 56) rfl)) (hw _ (List.mem_of_getElem? (i := 57) rfl)) (hw _ (List.mem_of_getElem? (i := 58) rfl)) (hw _ (List.mem_of_getElem? (i := 59) rfl)) (hw _ (List.mem_of_getElem? (i := 60) rfl)) (hw _ (List.mem_of_getElem? (i := 61) rfl)) (hw _ (List.mem_of_getElem? (i := 62) rfl)) e2 E_a1 MmA (g := (mkF m 12 #[.val (.ref a1)] [(.ref a1)])) rfl (by rw [hml]; rfl) rfl (hb hby d7_12) (by decide) (by show 2 * 0 + 0 + (nativeFrameWords "java/lang/Object" "getClass" 1 + 11) ≤ 52; decide)
    refine own_st (T' := T4) (F' := (mkF m 17 #[.val (.ref a1)] [(.ref mA)])) st4 ?_
    obtain ⟨T5, X5, e5, st5⟩ := own_ldcM X4 hx hZ hown (hw _ (List.mem_of_getElem? (i := 67) rfl)) e4 MmR (g := (mkF m 17 #[.val (.ref a1)] [(.ref mA)])) rfl (hb hby d7_17)
    refine own_st (T' := T5) (F' := (mkF m 19 #[.val (.ref a1)] [(.ref mR), (.ref mA)])) st5 ?_
    by_cases ha19_6 : mA = mR
    · refine own_st (T' := T5) (F' := (mkF m 22 #[.val (.ref a1)] [])) (fun t k => Jvm.RoadKit.acmp (g := (mkF m 19 #[.val (.ref a1)] [(.ref mR), (.ref mA)])) X5 hx rfl rfl rfl (pc0 := 19) (pc' := 22) (same := true) rfl (hb hby d7_19) rfl (decide_eq_true (congrArg Value.ref ha19_6)) (by decide) (by decide) k) ?_
      refine own_st (T' := T5) (F' := (mkF m 23 #[.val (.ref a1)] [(.ref a1)])) (fun t k => XS.aloadN X5.here hx rfl (hb hby d7_22) rfl rfl k) ?_
      exact own_retA X5 hx (t := (.object "java/util/List")) Bd.returns rfl rfl (hb hby d7_23) hlk (by show QX Z h0 _ T5.heap _; rw [e5]; exact ⟨_, rfl, N, own_ext_keep KP⟩) (by decide) (by decide)
    · refine own_st (T' := T5) (F' := (mkF m 24 #[.val (.ref a1)] [])) (fun t k => Jvm.RoadKit.acmp (g := (mkF m 19 #[.val (.ref a1)] [(.ref mR), (.ref mA)])) X5 hx rfl rfl rfl (pc0 := 19) (pc' := 24) (same := false) rfl (hb hby d7_19) rfl (decide_eq_false fun q => ha19_6 (Value.ref.inj q)) (by decide) (by decide) k) ?_
      refine own_st (T' := T5) (F' := (mkF m 25 #[.val (.ref a1)] [(.ref a1)])) (fun t k => XS.aloadN X5.here hx rfl (hb hby d7_24) rfl rfl k) ?_
      obtain ⟨T7, X7, e7, st7⟩ := instY X5 hx hZ hown (hw _ (List.mem_of_getElem? (i := 69) rfl)) e5 (Ins.of_exa E_a1 (hw _ (List.mem_of_getElem? (i := 70) rfl))) (g := (mkF m 25 #[.val (.ref a1)] [(.ref a1)])) rfl rfl (hb hby d7_25)
      refine own_st (T' := T7) (F' := (mkF m 28 #[.val (.ref a1)] [(.int (1 : Int32))])) st7 ?_
      refine own_st (T' := T7) (F' := (mkF m 31 #[.val (.ref a1)] [])) (fun t k => XS.ifNo X7.here hx rfl (hb hby d7_28) rfl ((if0 _ _).trans (feq (by decide : ¬ ((1 : Int32) = (0 : Int32)))).1) k) ?_
      obtain ⟨T8, h8, X8, e8, E8, A8, D8, U8, st8⟩ := newO X7 hx hZ hown (hw _ (List.mem_of_getElem? (i := 67) rfl)) (hw _ (List.mem_of_getElem? (i := 71) rfl)) (hw _ (List.mem_of_getElem? (i := 72) rfl)) e7 (g := (mkF m 31 #[.val (.ref a1)] [])) rfl (hb hby d7_31) (by decide) (by decide)
      obtain ⟨b8, g8⟩ : ∃ z, z = h0.size := ⟨_, rfl⟩
      rw [← g8] at A8 D8 U8 st8
      have ne_a1_b8 : a1 ≠ b8 := Nat.ne_of_lt (Nat.lt_of_lt_of_le E_a1.lt (Nat.le_of_eq g8.symm))
      have g_b8 : Z.heap.size ≤ b8 := Nat.le_trans O.1 (Nat.le_of_eq g8.symm)
      have k_b8 : h0.size ≤ b8 := Nat.le_trans KP.1 (Nat.le_of_eq g8.symm)
      have E_a1 := E_a1.ext E8
      have O := own_ext_trans O E8
      have KP := KP.ext E8
      have E_b8 := A8
      have F_c_b8 : Fld Z h8 b8 "java/util/Collections$UnmodifiableCollection" "c" "Ljava/util/Collection;" .null := D8 (Or.inr (hw _ (List.mem_of_getElem? (i := 90) rfl))) (ty := (.object "java/util/Collection")) (by decide)
      have F_list_b8 : Fld Z h8 b8 "java/util/Collections$UnmodifiableList" "list" "Ljava/util/List;" .null := D8 (Or.inr (hw _ (List.mem_of_getElem? (i := 92) rfl))) (ty := (.object "java/util/List")) (by decide)
      refine own_st (T' := T8) (F' := (mkF m 34 #[.val (.ref a1)] [(.ref b8)])) st8 ?_
      refine own_st (T' := T8) (F' := (mkF m 35 #[.val (.ref a1)] [(.ref b8), (.ref b8)])) (fun t k => XS.dup X8.here hx rfl (hb hby d7_34) rfl rfl k) ?_
      refine own_st (T' := T8) (F' := (mkF m 36 #[.val (.ref a1)] [(.ref a1), (.ref b8), (.ref b8)])) (fun t k => XS.aloadN X8.here hx rfl (hb hby d7_35) rfl rfl k) ?_
      obtain ⟨v9, _, ⟨T9, L9, k9, n9⟩, -, X9, ⟨Lc9, hQ9, l9, y9, z9⟩, st9⟩ := X8.specialBack hx (y := (⟨"java/util/Collections$UnmodifiableRandomAccessList", "<init>", "(Ljava/util/List;)V"⟩ : MethodName)) rfl hown (mvT hZ (hw _ (List.mem_of_getElem? (i := 73) rfl))) (mvT hZ (hw _ (List.mem_of_getElem? (i := 74) rfl))) (mvT hZ (hw _ (List.mem_of_getElem? (i := 75) rfl))) (by decide) (backOf (W := 1) (rm8 l Z a0 CX [] b8 a1 .null rfl .null rfl h8 O E_b8 g_b8 F_c_b8 F_list_b8) hZ (hw _ (List.mem_of_getElem? (i := 75) rfl)) (hw _ (List.mem_of_getElem? (i := 72) rfl)) (by decide) (by decide)) (g := (mkF m 36 #[.val (.ref a1)] [(.ref a1), (.ref b8), (.ref b8)])) rfl (by rw [hml]; rfl) (Steps.refl _) (a := b8) (argsL := [(.ref a1)]) (rest := [(.ref b8)]) (lenOf pd_2 rfl) rfl (by show 2 * 0 + _ ≤ _; exact Nat.le_of_eq rfl) (hb hby d7_36) (fun _ _ => ⟨rfl, e8, (by decide : 1 + 0 ≤ _), (by decide : 2 + 0 ≤ _)⟩)
      dsimp only [Pt.U, Pt.locs, Pt.cells, Pt.slots] at X9 l9 y9 z9 st9 hQ9
      subst l9 y9 z9
      obtain ⟨rfl, N9q, K9, F_c_b8, F_list_b8⟩ := hQ9
      have N := Fr.app N N9q
      have E_a1 := E_a1.keep K9
      have E_b8 := E_b8.keep K9
      have O := own_O_keep O K9 (allS g_b8 all0)
      have KP := KP.trans K9 (allS (Or.inr k_b8) all0)
      refine own_tr (T' := T9) (F' := (mkF m 39 #[.val (.ref a1)] [(.ref b8)])) st9 ?_
      refine own_st (T' := T9) (F' := (mkF m 50 #[.val (.ref a1)] [(.ref b8)])) (fun t k => XS.goto X9.here hx rfl (pc0 := 39) (pc' := 50) rfl (hb hby d7_39) (by decide) (by decide) k) ?_
      exact own_retA X9 hx (t := (.object "java/util/List")) Bd.returns rfl rfl (hb hby d7_50) hlk (⟨_, rfl, N, own_ext_keep KP⟩) (by decide) (by decide)
theorem d11_0 : decode jdk_40_method_36_code 0 = .ok (.getstatic 90, 3) := by decide +kernel
theorem d11_3 : decode jdk_40_method_36_code 3 = .ok (.areturn, 1) := by decide +kernel
theorem pn_8 : plainName "java/util/List" = true := by first | (simp [plainName, overriddenIn]; done) | decide +kernel
set_option maxRecDepth 65536 in
set_option maxHeartbeats 40000000 in
theorem rm11 (l : Launch) (Z : State) (a0 : Array Value) {w_FRONT : Addr} {w_PART : Addr} {w_DIVISION : Addr} {w_BACK : Addr} {w_CHAPTER : Addr} {w_ARTICLE : Addr} {w_SECTION : Addr} {w_RESERVED : Addr} {w_dc : Addr} {w_el : Addr} {mA : Addr} {mL : Addr} {mR : Addr} (CX : Ctx Z a0 w_FRONT w_PART w_DIVISION w_BACK w_CHAPTER w_ARTICLE w_SECTION w_RESERVED w_dc w_el mA mL mR) (ws : List Jvm.Cond)  (h0 : Heap) (O : Ext Z.heap h0)  :
    MetFree l (⟨"java/util/List", "of", "()Ljava/util/List;"⟩ : MethodName) (head1 (Jvm.Cond.code (⟨"java/util/List", "of", "()Ljava/util/List;"⟩ : MethodName) jdk_40_method_36_code 0 (some (.object "java/util/List")) :: ws) ({ frames := 0, cells := 0, slots := 0, locals := 0 } : Room)) (fun a U => a = #[] ∧ Z.Warmed39 U.vm ∧ U.heap = h0) (fun _ _ _ _ _ => True) (fun _ U o U' => ∃ v L, o = .returned v ∧ QP Z (.ref w_el) h0 v U'.heap L ∧ FrameEnd U o U' L ({ frames := 0, cells := 0, slots := 0, locals := 0 } : Room).cells ({ frames := 0, cells := 0, slots := 0, locals := 0 } : Room).slots) := by
  refine MetFree.of_bodySF (plainFor_of_name pn_8) hisR ?_
  intro p e s m args below meth c s₁ Bd hml0 hP hK
  obtain ⟨rfl, hZ, hh⟩ := hP
  have CX0 := CX
  obtain ⟨hw, S_FRONT, E_FRONT, S_PART, E_PART, S_DIVISION, E_DIVISION, S_BACK, E_BACK, S_CHAPTER, E_CHAPTER, S_ARTICLE, E_ARTICLE, S_SECTION, E_SECTION, S_RESERVED, E_RESERVED, O_PART, O_FRONT, O_DIVISION, O_BACK, O_CHAPTER, O_ARTICLE, O_SECTION, O_RESERVED, S_dc, S_el, MmA, MmL, MmR, -⟩ := CX0
  have hx := Bd.exec
  have hby := Bd.bytes
  have hml : c.maxLocals = 0 := hml0
  have hown : s.vm.findClass "java/util/List" = some m.cls := findClass_of_methodNamed Bd.named
  have hnm := (name_of_methodNamed Bd.named Bd.method).1
  have hlk : meth.locks = false := BodyLoose.notSynchronized Bd
  have X0 : Stand p l e ({ frames := 0, cells := 0, slots := 0, locals := 0 } : Room) s m #[] below meth c s₁ [] 0 0 := Stand.of_body Bd
  have e0 : s₁.heap = h0 := by rw [← hh, Bd.state]; rfl
  have N := Fr.nil Z.heap.size
  show own_Done p.tables e below (own_R (QP Z (.ref w_el) h0) s 0 0) s₁ (entryFrame m #[] 0)
  refine own_st (T' := s₁) (F' := (mkF m 0 #[] [])) (fun t k => castTop (by first | rfl | (simp [entryFrame, mkF, argsToLocals, Value.category]; done)) k) ?_
  obtain ⟨T1, X1, e1, st1⟩ := getS2 X0 hx hZ hown (host := "") (Or.inl (hw _ (List.mem_of_getElem? (i := 105) rfl))) Via.refl e0 (S_el.ext O) (g := (mkF m 0 #[] [])) rfl (hb hby d11_0)
  refine own_st (T' := T1) (F' := (mkF m 3 #[] [(.ref w_el)])) st1 ?_
  exact own_retA X1 hx (t := (.object "java/util/List")) Bd.returns rfl rfl (hb hby d11_3) hlk (by show QP Z (.ref w_el) h0 _ T1.heap _; rw [e1]; exact ⟨rfl, N, rfl⟩) (by decide) (by decide)
def Q_rm2 (Z : State) (a1 : Addr) (p1 : Value) (hp1 : p1.isRef = true) (p2 : Value) (hp2 : p2.isRef = true) (p3 : Value) (hp3 : p3.isRef = true) (p4 : Int32) (p5 : Int32) (hp5 : p5 = 0 ∨ p5 = 1) (u_children : Value) (hu_children : u_children.isRef = true) (u_childrenView : Value) (hu_childrenView : u_childrenView.isRef = true) (u_notes : Value) (hu_notes : u_notes.isRef = true) (u_history : Value) (hu_history : u_history.isRef = true) (u_footnotes : Value) (hu_footnotes : u_footnotes.isRef = true) (u_parts : Value) (hu_parts : u_parts.isRef = true) (u_citations : Value) (hu_citations : u_citations.isRef = true) (u_kind : Value) (hu_kind : u_kind.isRef = true) (u_number : Value) (hu_number : u_number.isRef = true) (u_title : Value) (hu_title : u_title.isRef = true) (u_line : Int32) (u_malformed : Int32) (hu_malformed : u_malformed = 0 ∨ u_malformed = 1) (h0 : Heap) (v : Option Value) (h : Heap) (L : List Loc) : Prop := v = none ∧ Fr Z.heap.size L ∧ Keep h0 h [a1] ∧ Fld Z h a1 "com/example/catchline/catchline/Node" "kind" "Lcom/example/catchline/catchline/Kind;" p1 ∧ Fld Z h a1 "com/example/catchline/catchline/Node" "line" "I" (.int p4)
theorem d2_0 : decode prog_43_method_1_code 0 = .ok (.aload_n 0, 1) := by decide +kernel
theorem d2_1 : decode prog_43_method_1_code 1 = .ok (.invokespecial 1, 3) := by decide +kernel
theorem d2_4 : decode prog_43_method_1_code 4 = .ok (.aload_n 0, 1) := by decide +kernel
theorem d2_5 : decode prog_43_method_1_code 5 = .ok (.new 7, 3) := by decide +kernel
theorem d2_8 : decode prog_43_method_1_code 8 = .ok (.dup, 1) := by decide +kernel
theorem d2_9 : decode prog_43_method_1_code 9 = .ok (.invokespecial 9, 3) := by decide +kernel
theorem d2_12 : decode prog_43_method_1_code 12 = .ok (.putfield 10, 3) := by decide +kernel
theorem d2_15 : decode prog_43_method_1_code 15 = .ok (.aload_n 0, 1) := by decide +kernel
theorem d2_16 : decode prog_43_method_1_code 16 = .ok (.aload_n 0, 1) := by decide +kernel
theorem d2_17 : decode prog_43_method_1_code 17 = .ok (.getfield 10, 3) := by decide +kernel
theorem d2_20 : decode prog_43_method_1_code 20 = .ok (.invokestatic 16, 3) := by decide +kernel
theorem d2_23 : decode prog_43_method_1_code 23 = .ok (.putfield 22, 3) := by decide +kernel
theorem d2_26 : decode prog_43_method_1_code 26 = .ok (.aload_n 0, 1) := by decide +kernel
theorem d2_27 : decode prog_43_method_1_code 27 = .ok (.new 7, 3) := by decide +kernel
theorem d2_30 : decode prog_43_method_1_code 30 = .ok (.dup, 1) := by decide +kernel
theorem d2_31 : decode prog_43_method_1_code 31 = .ok (.invokespecial 9, 3) := by decide +kernel
theorem d2_34 : decode prog_43_method_1_code 34 = .ok (.putfield 25, 3) := by decide +kernel
theorem d2_37 : decode prog_43_method_1_code 37 = .ok (.aload_n 0, 1) := by decide +kernel
theorem d2_38 : decode prog_43_method_1_code 38 = .ok (.new 7, 3) := by decide +kernel
theorem d2_41 : decode prog_43_method_1_code 41 = .ok (.dup, 1) := by decide +kernel
theorem d2_42 : decode prog_43_method_1_code 42 = .ok (.invokespecial 9, 3) := by decide +kernel
theorem d2_45 : decode prog_43_method_1_code 45 = .ok (.putfield 28, 3) := by decide +kernel
theorem d2_48 : decode prog_43_method_1_code 48 = .ok (.aload_n 0, 1) := by decide +kernel
theorem d2_49 : decode prog_43_method_1_code 49 = .ok (.new 7, 3) := by decide +kernel
theorem d2_52 : decode prog_43_method_1_code 52 = .ok (.dup, 1) := by decide +kernel
theorem d2_53 : decode prog_43_method_1_code 53 = .ok (.invokespecial 9, 3) := by decide +kernel
theorem d2_56 : decode prog_43_method_1_code 56 = .ok (.putfield 31, 3) := by decide +kernel
theorem d2_59 : decode prog_43_method_1_code 59 = .ok (.aload_n 0, 1) := by decide +kernel
theorem d2_60 : decode prog_43_method_1_code 60 = .ok (.invokestatic 34, 3) := by decide +kernel
theorem d2_63 : decode prog_43_method_1_code 63 = .ok (.putfield 40, 3) := by decide +kernel
theorem d2_66 : decode prog_43_method_1_code 66 = .ok (.aload_n 0, 1) := by decide +kernel
theorem d2_67 : decode prog_43_method_1_code 67 = .ok (.new 7, 3) := by decide +kernel
theorem d2_70 : decode prog_43_method_1_code 70 = .ok (.dup, 1) := by decide +kernel
theorem d2_71 : decode prog_43_method_1_code 71 = .ok (.invokespecial 9, 3) := by decide +kernel
theorem d2_74 : decode prog_43_method_1_code 74 = .ok (.putfield 43, 3) := by decide +kernel
theorem d2_77 : decode prog_43_method_1_code 77 = .ok (.aload_n 0, 1) := by decide +kernel
theorem d2_78 : decode prog_43_method_1_code 78 = .ok (.aload_n 1, 1) := by decide +kernel
theorem d2_79 : decode prog_43_method_1_code 79 = .ok (.putfield 46, 3) := by decide +kernel
theorem d2_82 : decode prog_43_method_1_code 82 = .ok (.aload_n 0, 1) := by decide +kernel
theorem d2_83 : decode prog_43_method_1_code 83 = .ok (.aload_n 2, 1) := by decide +kernel
theorem d2_84 : decode prog_43_method_1_code 84 = .ok (.putfield 50, 3) := by decide +kernel
theorem d2_87 : decode prog_43_method_1_code 87 = .ok (.aload_n 0, 1) := by decide +kernel
theorem d2_88 : decode prog_43_method_1_code 88 = .ok (.aload_n 3, 1) := by decide +kernel
theorem d2_89 : decode prog_43_method_1_code 89 = .ok (.putfield 54, 3) := by decide +kernel
theorem d2_92 : decode prog_43_method_1_code 92 = .ok (.aload_n 0, 1) := by decide +kernel
theorem d2_93 : decode prog_43_method_1_code 93 = .ok (.iload 4, 2) := by decide +kernel
theorem d2_95 : decode prog_43_method_1_code 95 = .ok (.putfield 57, 3) := by decide +kernel
theorem d2_98 : decode prog_43_method_1_code 98 = .ok (.aload_n 0, 1) := by decide +kernel
theorem d2_99 : decode prog_43_method_1_code 99 = .ok (.iload 5, 2) := by decide +kernel
theorem d2_101 : decode prog_43_method_1_code 101 = .ok (.putfield 61, 3) := by decide +kernel
theorem d2_104 : decode prog_43_method_1_code 104 = .ok (.return_, 1) := by decide +kernel
theorem pn_9 : plainName "com/example/catchline/catchline/Node" = true := by first | (simp [plainName, overriddenIn]; done) | decide +kernel
theorem pd_3 : parseMethodDescriptor "(Ljava/util/List;)Ljava/util/List;" = some ⟨[(.object "java/util/List")], some (.object "java/util/List")⟩ := by decide +kernel
theorem pd_4 : parseMethodDescriptor "()Ljava/util/List;" = some ⟨[], some (.object "java/util/List")⟩ := by decide +kernel
set_option maxRecDepth 65536 in
set_option maxHeartbeats 40000000 in
theorem rm2 (l : Launch) (Z : State) (a0 : Array Value) {w_FRONT : Addr} {w_PART : Addr} {w_DIVISION : Addr} {w_BACK : Addr} {w_CHAPTER : Addr} {w_ARTICLE : Addr} {w_SECTION : Addr} {w_RESERVED : Addr} {w_dc : Addr} {w_el : Addr} {mA : Addr} {mL : Addr} {mR : Addr} (CX : Ctx Z a0 w_FRONT w_PART w_DIVISION w_BACK w_CHAPTER w_ARTICLE w_SECTION w_RESERVED w_dc w_el mA mL mR) (ws : List Jvm.Cond) (a1 : Addr) (p1 : Value) (hp1 : p1.isRef = true) (p2 : Value) (hp2 : p2.isRef = true) (p3 : Value) (hp3 : p3.isRef = true) (p4 : Int32) (p5 : Int32) (hp5 : p5 = 0 ∨ p5 = 1) (u_children : Value) (hu_children : u_children.isRef = true) (u_childrenView : Value) (hu_childrenView : u_childrenView.isRef = true) (u_notes : Value) (hu_notes : u_notes.isRef = true) (u_history : Value) (hu_history : u_history.isRef = true) (u_footnotes : Value) (hu_footnotes : u_footnotes.isRef = true) (u_parts : Value) (hu_parts : u_parts.isRef = true) (u_citations : Value) (hu_citations : u_citations.isRef = true) (u_kind : Value) (hu_kind : u_kind.isRef = true) (u_number : Value) (hu_number : u_number.isRef = true) (u_title : Value) (hu_title : u_title.isRef = true) (u_line : Int32) (u_malformed : Int32) (hu_malformed : u_malformed = 0 ∨ u_malformed = 1) (h0 : Heap) (O : Ext Z.heap h0) (E_a1 : Exa Z h0 a1 "com/example/catchline/catchline/Node") (g_a1 : Z.heap.size ≤ a1) (F_children : Fld Z h0 a1 "com/example/catchline/catchline/Node" "children" "Ljava/util/List;" u_children) (F_childrenView : Fld Z h0 a1 "com/example/catchline/catchline/Node" "childrenView" "Ljava/util/List;" u_childrenView) (F_notes : Fld Z h0 a1 "com/example/catchline/catchline/Node" "notes" "Ljava/util/List;" u_notes) (F_history : Fld Z h0 a1 "com/example/catchline/catchline/Node" "history" "Ljava/util/List;" u_history) (F_footnotes : Fld Z h0 a1 "com/example/catchline/catchline/Node" "footnotes" "Ljava/util/List;" u_footnotes) (F_parts : Fld Z h0 a1 "com/example/catchline/catchline/Node" "parts" "Ljava/util/List;" u_parts) (F_citations : Fld Z h0 a1 "com/example/catchline/catchline/Node" "citations" "Ljava/util/List;" u_citations) (F_kind : Fld Z h0 a1 "com/example/catchline/catchline/Node" "kind" "Lcom/example/catchline/catchline/Kind;" u_kind) (F_number : Fld Z h0 a1 "com/example/catchline/catchline/Node" "number" "Ljava/lang/String;" u_number) (F_title : Fld Z h0 a1 "com/example/catchline/catchline/Node" "title" "Ljava/lang/String;" u_title) (F_line : Fld Z h0 a1 "com/example/catchline/catchline/Node" "line" "I" (.int u_line)) (F_malformed : Fld Z h0 a1 "com/example/catchline/catchline/Node" "malformed" "Z" (.int u_malformed)) :
    MetFree l (⟨"com/example/catchline/catchline/Node", "<init>", "(Lcom/example/catchline/catchline/Kind;Ljava/lang/String;Ljava/lang/String;IZ)V"⟩ : MethodName) (head1 (Jvm.Cond.code (⟨"com/example/catchline/catchline/Node", "<init>", "(Lcom/example/catchline/catchline/Kind;Ljava/lang/String;Ljava/lang/String;IZ)V"⟩ : MethodName) prog_43_method_1_code 6 none :: ws) ({ frames := 5, cells := 6, slots := 17, locals := 65 } : Room)) (fun a U => a = #[(.ref a1), p1, p2, p3, (.int p4), (.int p5)] ∧ Z.Warmed39 U.vm ∧ U.heap = h0) (fun _ _ _ _ _ => True) (fun _ U o U' => ∃ v L, o = .returned v ∧ Q_rm2 Z a1 p1 hp1 p2 hp2 p3 hp3 p4 p5 hp5 u_children hu_children u_childrenView hu_childrenView u_notes hu_notes u_history hu_history u_footnotes hu_footnotes u_parts hu_parts u_citations hu_citations u_kind hu_kind u_number hu_number u_title hu_title u_line u_malformed hu_malformed h0 v U'.heap L ∧ FrameEnd U o U' L ({ frames := 5, cells := 6, slots := 17, locals := 65 } : Room).cells ({ frames := 5, cells := 6, slots := 17, locals := 65 } : Room).slots) := by
  refine MetFree.of_bodySF (plainFor_of_name pn_9) hisR ?_
  intro p e s m args below meth c s₁ Bd hml0 hP hK
  obtain ⟨rfl, hZ, hh⟩ := hP
  have CX0 := CX
  obtain ⟨hw, S_FRONT, E_FRONT, S_PART, E_PART, S_DIVISION, E_DIVISION, S_BACK, E_BACK, S_CHAPTER, E_CHAPTER, S_ARTICLE, E_ARTICLE, S_SECTION, E_SECTION, S_RESERVED, E_RESERVED, O_PART, O_FRONT, O_DIVISION, O_BACK, O_CHAPTER, O_ARTICLE, O_SECTION, O_RESERVED, S_dc, S_el, MmA, MmL, MmR, -⟩ := CX0
  have hx := Bd.exec
  have hby := Bd.bytes
  have hml : c.maxLocals = 6 := hml0
  have hown : s.vm.findClass "com/example/catchline/catchline/Node" = some m.cls := findClass_of_methodNamed Bd.named
  have hnm := (name_of_methodNamed Bd.named Bd.method).1
  have hlk : meth.locks = false := BodyLoose.notSynchronized Bd
  have X0 : Stand p l e ({ frames := 5, cells := 6, slots := 17, locals := 65 } : Room) s m #[(.ref a1), p1, p2, p3, (.int p4), (.int p5)] below meth c s₁ [] 0 0 := Stand.of_body Bd
  have e0 : s₁.heap = h0 := by rw [← hh, Bd.state]; rfl
  have N := Fr.nil Z.heap.size
  show own_Done p.tables e below (own_R (Q_rm2 Z a1 p1 hp1 p2 hp2 p3 hp3 p4 p5 hp5 u_children hu_children u_childrenView hu_childrenView u_notes hu_notes u_history hu_history u_footnotes hu_footnotes u_parts hu_parts u_citations hu_citations u_kind hu_kind u_number hu_number u_title hu_title u_line u_malformed hu_malformed h0) s 6 17) s₁ (entryFrame m #[(.ref a1), p1, p2, p3, (.int p4), (.int p5)] 6)
  refine own_st (T' := s₁) (F' := (mkF m 0 #[.val (.ref a1), .val p1, .val p2, .val p3, .val (.int p4), .val (.int p5)] [])) (fun t k => castTop (by rcases ref_cases hp1 with rfl | ⟨_, rfl⟩ <;> rcases ref_cases hp2 with rfl | ⟨_, rfl⟩ <;> rcases ref_cases hp3 with rfl | ⟨_, rfl⟩ <;> rfl) k) ?_
  have KP := Keep.refl h0 [a1]
  refine own_st (T' := s₁) (F' := (mkF m 1 #[.val (.ref a1), .val p1, .val p2, .val p3, .val (.int p4), .val (.int p5)] [(.ref a1)])) (fun t k => XS.aloadN X0.here hx rfl (hb hby d2_0) rfl rfl k) ?_
  obtain ⟨T1, X1, e1, st1⟩ := initO X0 hx hZ hown (hw _ (List.mem_of_getElem? (i := 21) rfl)) (hw _ (List.mem_of_getElem? (i := 22) rfl)) (hw _ (List.mem_of_getElem? (i := 23) rfl)) e0 (g := (mkF m 1 #[.val (.ref a1), .val p1, .val p2, .val p3, .val (.int p4), .val (.int p5)] [(.ref a1)])) rfl (by rw [hml]; rfl) rfl (hb hby d2_1) (by decide) (W := 0) (by show 2 * 0 + _ ≤ _; exact Nat.le_of_eq rfl) (by decide)
  refine own_st (T' := T1) (F' := (mkF m 4 #[.val (.ref a1), .val p1, .val p2, .val p3, .val (.int p4), .val (.int p5)] [])) st1 ?_
  refine own_st (T' := T1) (F' := (mkF m 5 #[.val (.ref a1), .val p1, .val p2, .val p3, .val (.int p4), .val (.int p5)] [(.ref a1)])) (fun t k => XS.aloadN X1.here hx rfl (hb hby d2_4) rfl rfl k) ?_
  obtain ⟨T2, h2, X2, e2, E2, A2, D2, U2, st2⟩ := newO X1 hx hZ hown (hw _ (List.mem_of_getElem? (i := 24) rfl)) (hw _ (List.mem_of_getElem? (i := 25) rfl)) (hw _ (List.mem_of_getElem? (i := 26) rfl)) e1 (g := (mkF m 5 #[.val (.ref a1), .val p1, .val p2, .val p3, .val (.int p4), .val (.int p5)] [(.ref a1)])) rfl (hb hby d2_5) (by decide) (by decide)
  obtain ⟨b2, g2⟩ : ∃ z, z = h0.size := ⟨_, rfl⟩
  rw [← g2] at A2 D2 U2 st2
  have ne_a1_b2 : a1 ≠ b2 := Nat.ne_of_lt (Nat.lt_of_lt_of_le E_a1.lt (Nat.le_of_eq g2.symm))
  have g_b2 : Z.heap.size ≤ b2 := Nat.le_trans O.1 (Nat.le_of_eq g2.symm)
  have k_b2 : h0.size ≤ b2 := Nat.le_trans KP.1 (Nat.le_of_eq g2.symm)
  have E_a1 := E_a1.ext E2
  have F_children := F_children.ext E2
  have F_childrenView := F_childrenView.ext E2
  have F_notes := F_notes.ext E2
  have F_history := F_history.ext E2
  have F_footnotes := F_footnotes.ext E2
  have F_parts := F_parts.ext E2
  have F_citations := F_citations.ext E2
  have F_kind := F_kind.ext E2
  have F_number := F_number.ext E2
  have F_title := F_title.ext E2
  have F_line := F_line.ext E2
  have F_malformed := F_malformed.ext E2
  have O := own_ext_trans O E2
  have KP := KP.ext E2
  have E_b2 := A2
  have F_modCount_b2 : Fld Z h2 b2 "java/util/AbstractList" "modCount" "I" (.int (0 : Int32)) := D2 (Or.inl (hw _ (List.mem_of_getElem? (i := 44) rfl))) (ty := .int) (by decide)
  have F_elementData_b2 : Fld Z h2 b2 "java/util/ArrayList" "elementData" "[Ljava/lang/Object;" .null := D2 (Or.inl (hw _ (List.mem_of_getElem? (i := 47) rfl))) (ty := (.array (.object "java/lang/Object"))) (by decide)
  refine own_st (T' := T2) (F' := (mkF m 8 #[.val (.ref a1), .val p1, .val p2, .val p3, .val (.int p4), .val (.int p5)] [(.ref b2), (.ref a1)])) st2 ?_
  refine own_st (T' := T2) (F' := (mkF m 9 #[.val (.ref a1), .val p1, .val p2, .val p3, .val (.int p4), .val (.int p5)] [(.ref b2), (.ref b2), (.ref a1)])) (fun t k => XS.dup X2.here hx rfl (hb hby d2_8) rfl rfl k) ?_
  obtain ⟨v3, _, ⟨T3, L3, k3, n3⟩, -, X3, ⟨Lc3, hQ3, l3, y3, z3⟩, st3⟩ := X2.specialBack hx (y := (⟨"java/util/ArrayList", "<init>", "()V"⟩ : MethodName)) rfl hown (mvT hZ (hw _ (List.mem_of_getElem? (i := 27) rfl))) (mvT hZ (hw _ (List.mem_of_getElem? (i := 28) rfl))) (mvT hZ (hw _ (List.mem_of_getElem? (i := 29) rfl))) (by decide) (backOf (W := 2) (rm4 l Z a0 CX [] b2 (0 : Int32) .null rfl h2 O E_b2 g_b2 F_modCount_b2 F_elementData_b2) hZ (hw _ (List.mem_of_getElem? (i := 29) rfl)) (hw _ (List.mem_of_getElem? (i := 26) rfl)) (by decide) (by decide)) (g := (mkF m 9 #[.val (.ref a1), .val p1, .val p2, .val p3, .val (.int p4), .val (.int p5)] [(.ref b2), (.ref b2), (.ref a1)])) rfl (by rw [hml]; rfl) (Steps.refl _) (a := b2) (argsL := []) (rest := [(.ref b2), (.ref a1)]) (lenOf pd_0 rfl) rfl (by show 2 * 0 + _ ≤ _; exact Nat.le_of_eq rfl) (hb hby d2_9) (fun _ _ => ⟨rfl, e2, (by decide : 1 + 0 ≤ _), (by decide : 3 + 0 ≤ _)⟩)
  dsimp only [Pt.U, Pt.locs, Pt.cells, Pt.slots] at X3 l3 y3 z3 st3 hQ3
  subst l3 y3 z3
  obtain ⟨rfl, N3q, K3, F_modCount_b2, F_elementData_b2⟩ := hQ3
  have N := Fr.app N N3q
  have E_a1 := E_a1.keep K3
  have F_children := F_children.keep K3 (ninS ne_a1_b2 nin0)
  have F_childrenView := F_childrenView.keep K3 (ninS ne_a1_b2 nin0)
  have F_notes := F_notes.keep K3 (ninS ne_a1_b2 nin0)
  have F_history := F_history.keep K3 (ninS ne_a1_b2 nin0)
  have F_footnotes := F_footnotes.keep K3 (ninS ne_a1_b2 nin0)
  have F_parts := F_parts.keep K3 (ninS ne_a1_b2 nin0)
  have F_citations := F_citations.keep K3 (ninS ne_a1_b2 nin0)
  have F_kind := F_kind.keep K3 (ninS ne_a1_b2 nin0)
  have F_number := F_number.keep K3 (ninS ne_a1_b2 nin0)
  have F_title := F_title.keep K3 (ninS ne_a1_b2 nin0)
  have F_line := F_line.keep K3 (ninS ne_a1_b2 nin0)
  have F_malformed := F_malformed.keep K3 (ninS ne_a1_b2 nin0)
  have E_b2 := E_b2.keep K3
  have O := own_O_keep O K3 (allS g_b2 all0)
  have KP := KP.trans K3 (allS (Or.inr k_b2) all0)
  refine own_tr (T' := T3) (F' := (mkF m 12 #[.val (.ref a1), .val p1, .val p2, .val p3, .val (.int p4), .val (.int p5)] [(.ref b2), (.ref a1)])) st3 ?_
  obtain ⟨T4, h4, X4, e4, W4, st4⟩ := putF X3 hx hZ hown (host := "") (Or.inl (hw _ (List.mem_of_getElem? (i := 48) rfl))) Via.refl rfl F_children E_a1 (Or.inr ⟨(hw _ (List.mem_of_getElem? (i := 49) rfl)), rfl, hnm⟩) (hw _ (List.mem_of_getElem? (i := 8) rfl)) (ty := (.object "java/util/List")) (by decide) rfl rfl (g := (mkF m 12 #[.val (.ref a1), .val p1, .val p2, .val p3, .val (.int p4), .val (.int p5)] [(.ref b2), (.ref a1)])) rfl rfl (hb hby d2_12)
  have E_a1 := E_a1.wr W4
  have F_childrenView := F_childrenView.other W4 (Or.inr (slot_ne (Or.inr (hw _ (List.mem_of_getElem? (i := 94) rfl))) (Or.inr (hw _ (List.mem_of_getElem? (i := 49) rfl))) (by decide) (t := (.object "java/util/List")) (t' := (.object "java/util/List")) (by decide) (by decide)))
  have F_notes := F_notes.other W4 (Or.inr (slot_ne (Or.inr (hw _ (List.mem_of_getElem? (i := 96) rfl))) (Or.inr (hw _ (List.mem_of_getElem? (i := 49) rfl))) (by decide) (t := (.object "java/util/List")) (t' := (.object "java/util/List")) (by decide) (by decide)))
  have F_history := F_history.other W4 (Or.inr (slot_ne (Or.inr (hw _ (List.mem_of_getElem? (i := 98) rfl))) (Or.inr (hw _ (List.mem_of_getElem? (i := 49) rfl))) (by decide) (t := (.object "java/util/List")) (t' := (.object "java/util/List")) (by decide) (by decide)))
  have F_footnotes := F_footnotes.other W4 (Or.inr (slot_ne (Or.inr (hw _ (List.mem_of_getElem? (i := 100) rfl))) (Or.inr (hw _ (List.mem_of_getElem? (i := 49) rfl))) (by decide) (t := (.object "java/util/List")) (t' := (.object "java/util/List")) (by decide) (by decide)))
  have F_parts := F_parts.other W4 (Or.inr (slot_ne (Or.inl (hw _ (List.mem_of_getElem? (i := 108) rfl))) (Or.inr (hw _ (List.mem_of_getElem? (i := 49) rfl))) (by decide) (t := (.object "java/util/List")) (t' := (.object "java/util/List")) (by decide) (by decide)))
  have F_citations := F_citations.other W4 (Or.inr (slot_ne (Or.inr (hw _ (List.mem_of_getElem? (i := 110) rfl))) (Or.inr (hw _ (List.mem_of_getElem? (i := 49) rfl))) (by decide) (t := (.object "java/util/List")) (t' := (.object "java/util/List")) (by decide) (by decide)))
  have F_kind := F_kind.other W4 (Or.inr (slot_ne (Or.inr (hw _ (List.mem_of_getElem? (i := 112) rfl))) (Or.inr (hw _ (List.mem_of_getElem? (i := 49) rfl))) (by decide) (t := (.object "com/example/catchline/catchline/Kind")) (t' := (.object "java/util/List")) (by decide) (by decide)))
  have F_number := F_number.other W4 (Or.inr (slot_ne (Or.inr (hw _ (List.mem_of_getElem? (i := 114) rfl))) (Or.inr (hw _ (List.mem_of_getElem? (i := 49) rfl))) (by decide) (t := (.object "java/lang/String")) (t' := (.object "java/util/List")) (by decide) (by decide)))
  have F_title := F_title.other W4 (Or.inr (slot_ne (Or.inr (hw _ (List.mem_of_getElem? (i := 116) rfl))) (Or.inr (hw _ (List.mem_of_getElem? (i := 49) rfl))) (by decide) (t := (.object "java/lang/String")) (t' := (.object "java/util/List")) (by decide) (by decide)))
  have F_line := F_line.other W4 (Or.inr (slot_ne (Or.inr (hw _ (List.mem_of_getElem? (i := 118) rfl))) (Or.inr (hw _ (List.mem_of_getElem? (i := 49) rfl))) (by decide) (t := .int) (t' := (.object "java/util/List")) (by decide) (by decide)))
  have F_malformed := F_malformed.other W4 (Or.inr (slot_ne (Or.inr (hw _ (List.mem_of_getElem? (i := 120) rfl))) (Or.inr (hw _ (List.mem_of_getElem? (i := 49) rfl))) (by decide) (t := .boolean) (t' := (.object "java/util/List")) (by decide) (by decide)))
  have E_b2 := E_b2.wr W4
  have F_modCount_b2 := F_modCount_b2.other W4 (Or.inl (Ne.symm ne_a1_b2))
  have F_elementData_b2 := F_elementData_b2.other W4 (Or.inl (Ne.symm ne_a1_b2))
  have O := own_O_wr O W4 g_a1
  have N := Fr.snoc X4 N g_a1
  have KP := KP.wr W4 (Or.inl (List.mem_of_getElem? (i := 0) rfl))
  have F_children := F_children.same W4
  refine own_st (T' := T4) (F' := (mkF m 15 #[.val (.ref a1), .val p1, .val p2, .val p3, .val (.int p4), .val (.int p5)] [])) st4 ?_
  refine own_st (T' := T4) (F' := (mkF m 16 #[.val (.ref a1), .val p1, .val p2, .val p3, .val (.int p4), .val (.int p5)] [(.ref a1)])) (fun t k => XS.aloadN X4.here hx rfl (hb hby d2_15) rfl rfl k) ?_
  refine own_st (T' := T4) (F' := (mkF m 17 #[.val (.ref a1), .val p1, .val p2, .val p3, .val (.int p4), .val (.int p5)] [(.ref a1), (.ref a1)])) (fun t k => XS.aloadN X4.here hx rfl (hb hby d2_16) rfl rfl k) ?_
  obtain ⟨T5, X5, e5, st5⟩ := getF X4 hx hZ hown (host := "") (Or.inl (hw _ (List.mem_of_getElem? (i := 48) rfl))) Via.refl e4 F_children (g := (mkF m 17 #[.val (.ref a1), .val p1, .val p2, .val p3, .val (.int p4), .val (.int p5)] [(.ref a1), (.ref a1)])) rfl rfl (hb hby d2_17)
  refine own_st (T' := T5) (F' := (mkF m 20 #[.val (.ref a1), .val p1, .val p2, .val p3, .val (.int p4), .val (.int p5)] [(.ref b2), (.ref a1)])) st5 ?_
  obtain ⟨v6, _, ⟨T6, L6, k6, n6⟩, -, X6, ⟨Lc6, hQ6, l6, y6, z6⟩, st6⟩ := Jvm.LawKit.callS X5 hx (y := (⟨"java/util/Collections", "unmodifiableList", "(Ljava/util/List;)Ljava/util/List;"⟩ : MethodName)) hown (mvT hZ (hw _ (List.mem_of_getElem? (i := 50) rfl))) (mvT hZ (hw _ (List.mem_of_getElem? (i := 51) rfl))) (mvT hZ (hw _ (List.mem_of_getElem? (i := 52) rfl))) (mvT hZ (hw _ (List.mem_of_getElem? (i := 53) rfl))) (by decide) (backOf (W := 1) (rm7 l Z a0 CX [] b2 h4 O E_b2) hZ (hw _ (List.mem_of_getElem? (i := 53) rfl)) (hw _ (List.mem_of_getElem? (i := 52) rfl)) (by decide) (by decide)) (g := (mkF m 20 #[.val (.ref a1), .val p1, .val p2, .val p3, .val (.int p4), .val (.int p5)] [(.ref b2), (.ref a1)])) rfl (by rw [hml]; rfl) (argsL := [(.ref b2)]) (rest := [(.ref a1)]) (lenOf pd_3 rfl) rfl (by show 2 * 0 + _ ≤ _; exact Nat.le_of_eq rfl) (hb hby d2_20) (fun _ _ => ⟨rfl, e5, (by decide : 1 + 1 ≤ _), (by decide : 3 + 2 ≤ _)⟩)
  dsimp only [Pt.U, Pt.locs, Pt.cells, Pt.slots] at X6 l6 y6 z6 st6 hQ6
  subst l6 y6 z6
  obtain ⟨r6, rfl, N6q, E6⟩ := hQ6
  have N := Fr.app N N6q
  have E_a1 := E_a1.ext E6
  have F_children := F_children.ext E6
  have F_childrenView := F_childrenView.ext E6
  have F_notes := F_notes.ext E6
  have F_history := F_history.ext E6
  have F_footnotes := F_footnotes.ext E6
  have F_parts := F_parts.ext E6
  have F_citations := F_citations.ext E6
  have F_kind := F_kind.ext E6
  have F_number := F_number.ext E6
  have F_title := F_title.ext E6
  have F_line := F_line.ext E6
  have F_malformed := F_malformed.ext E6
  have E_b2 := E_b2.ext E6
  have F_modCount_b2 := F_modCount_b2.ext E6
  have F_elementData_b2 := F_elementData_b2.ext E6
  have O := own_ext_trans O E6
  have KP := KP.ext E6
  refine own_st (T' := T6) (F' := (mkF m 23 #[.val (.ref a1), .val p1, .val p2, .val p3, .val (.int p4), .val (.int p5)] [(.ref r6), (.ref a1)])) st6 ?_
  obtain ⟨T7, h7, X7, e7, W7, st7⟩ := putF X6 hx hZ hown (host := "") (Or.inl (hw _ (List.mem_of_getElem? (i := 93) rfl))) Via.refl rfl F_childrenView E_a1 (Or.inr ⟨(hw _ (List.mem_of_getElem? (i := 94) rfl)), rfl, hnm⟩) (hw _ (List.mem_of_getElem? (i := 8) rfl)) (ty := (.object "java/util/List")) (by decide) rfl rfl (g := (mkF m 23 #[.val (.ref a1), .val p1, .val p2, .val p3, .val (.int p4), .val (.int p5)] [(.ref r6), (.ref a1)])) rfl rfl (hb hby d2_23)
  have E_a1 := E_a1.wr W7
  have F_children := F_children.other W7 (Or.inr (slot_ne (Or.inr (hw _ (List.mem_of_getElem? (i := 49) rfl))) (Or.inr (hw _ (List.mem_of_getElem? (i := 94) rfl))) (by decide) (t := (.object "java/util/List")) (t' := (.object "java/util/List")) (by decide) (by decide)))
  have F_notes := F_notes.other W7 (Or.inr (slot_ne (Or.inr (hw _ (List.mem_of_getElem? (i := 96) rfl))) (Or.inr (hw _ (List.mem_of_getElem? (i := 94) rfl))) (by decide) (t := (.object "java/util/List")) (t' := (.object "java/util/List")) (by decide) (by decide)))
  have F_history := F_history.other W7 (Or.inr (slot_ne (Or.inr (hw _ (List.mem_of_getElem? (i := 98) rfl))) (Or.inr (hw _ (List.mem_of_getElem? (i := 94) rfl))) (by decide) (t := (.object "java/util/List")) (t' := (.object "java/util/List")) (by decide) (by decide)))
  have F_footnotes := F_footnotes.other W7 (Or.inr (slot_ne (Or.inr (hw _ (List.mem_of_getElem? (i := 100) rfl))) (Or.inr (hw _ (List.mem_of_getElem? (i := 94) rfl))) (by decide) (t := (.object "java/util/List")) (t' := (.object "java/util/List")) (by decide) (by decide)))
  have F_parts := F_parts.other W7 (Or.inr (slot_ne (Or.inl (hw _ (List.mem_of_getElem? (i := 108) rfl))) (Or.inr (hw _ (List.mem_of_getElem? (i := 94) rfl))) (by decide) (t := (.object "java/util/List")) (t' := (.object "java/util/List")) (by decide) (by decide)))
  have F_citations := F_citations.other W7 (Or.inr (slot_ne (Or.inr (hw _ (List.mem_of_getElem? (i := 110) rfl))) (Or.inr (hw _ (List.mem_of_getElem? (i := 94) rfl))) (by decide) (t := (.object "java/util/List")) (t' := (.object "java/util/List")) (by decide) (by decide)))
  have F_kind := F_kind.other W7 (Or.inr (slot_ne (Or.inr (hw _ (List.mem_of_getElem? (i := 112) rfl))) (Or.inr (hw _ (List.mem_of_getElem? (i := 94) rfl))) (by decide) (t := (.object "com/example/catchline/catchline/Kind")) (t' := (.object "java/util/List")) (by decide) (by decide)))
  have F_number := F_number.other W7 (Or.inr (slot_ne (Or.inr (hw _ (List.mem_of_getElem? (i := 114) rfl))) (Or.inr (hw _ (List.mem_of_getElem? (i := 94) rfl))) (by decide) (t := (.object "java/lang/String")) (t' := (.object "java/util/List")) (by decide) (by decide)))
  have F_title := F_title.other W7 (Or.inr (slot_ne (Or.inr (hw _ (List.mem_of_getElem? (i := 116) rfl))) (Or.inr (hw _ (List.mem_of_getElem? (i := 94) rfl))) (by decide) (t := (.object "java/lang/String")) (t' := (.object "java/util/List")) (by decide) (by decide)))
  have F_line := F_line.other W7 (Or.inr (slot_ne (Or.inr (hw _ (List.mem_of_getElem? (i := 118) rfl))) (Or.inr (hw _ (List.mem_of_getElem? (i := 94) rfl))) (by decide) (t := .int) (t' := (.object "java/util/List")) (by decide) (by decide)))
  have F_malformed := F_malformed.other W7 (Or.inr (slot_ne (Or.inr (hw _ (List.mem_of_getElem? (i := 120) rfl))) (Or.inr (hw _ (List.mem_of_getElem? (i := 94) rfl))) (by decide) (t := .boolean) (t' := (.object "java/util/List")) (by decide) (by decide)))
  have E_b2 := E_b2.wr W7
  have F_modCount_b2 := F_modCount_b2.other W7 (Or.inl (Ne.symm ne_a1_b2))
  have F_elementData_b2 := F_elementData_b2.other W7 (Or.inl (Ne.symm ne_a1_b2))
  have O := own_O_wr O W7 g_a1
  have N := Fr.snoc X7 N g_a1
  have KP := KP.wr W7 (Or.inl (List.mem_of_getElem? (i := 0) rfl))
  have F_childrenView := F_childrenView.same W7
  refine own_st (T' := T7) (F' := (mkF m 26 #[.val (.ref a1), .val p1, .val p2, .val p3, .val (.int p4), .val (.int p5)] [])) st7 ?_
  refine own_st (T' := T7) (F' := (mkF m 27 #[.val (.ref a1), .val p1, .val p2, .val p3, .val (.int p4), .val (.int p5)] [(.ref a1)])) (fun t k => XS.aloadN X7.here hx rfl (hb hby d2_26) rfl rfl k) ?_
  obtain ⟨T8, h8, X8, e8, E8, A8, D8, U8, st8⟩ := newO X7 hx hZ hown (hw _ (List.mem_of_getElem? (i := 24) rfl)) (hw _ (List.mem_of_getElem? (i := 25) rfl)) (hw _ (List.mem_of_getElem? (i := 26) rfl)) e7 (g := (mkF m 27 #[.val (.ref a1), .val p1, .val p2, .val p3, .val (.int p4), .val (.int p5)] [(.ref a1)])) rfl (hb hby d2_27) (by decide) (by decide)
  obtain ⟨b8, g8⟩ : ∃ z, z = h7.size := ⟨_, rfl⟩
  rw [← g8] at A8 D8 U8 st8
  have ne_a1_b8 : a1 ≠ b8 := Nat.ne_of_lt (Nat.lt_of_lt_of_le E_a1.lt (Nat.le_of_eq g8.symm))
  have ne_b2_b8 : b2 ≠ b8 := Nat.ne_of_lt (Nat.lt_of_lt_of_le E_b2.lt (Nat.le_of_eq g8.symm))
  have g_b8 : Z.heap.size ≤ b8 := Nat.le_trans O.1 (Nat.le_of_eq g8.symm)
  have k_b8 : h0.size ≤ b8 := Nat.le_trans KP.1 (Nat.le_of_eq g8.symm)
  have E_a1 := E_a1.ext E8
  have F_children := F_children.ext E8
  have F_childrenView := F_childrenView.ext E8
  have F_notes := F_notes.ext E8
  have F_history := F_history.ext E8
  have F_footnotes := F_footnotes.ext E8
  have F_parts := F_parts.ext E8
  have F_citations := F_citations.ext E8
  have F_kind := F_kind.ext E8
  have F_number := F_number.ext E8
  have F_title := F_title.ext E8
  have F_line := F_line.ext E8
  have F_malformed := F_malformed.ext E8
  have E_b2 := E_b2.ext E8
  have F_modCount_b2 := F_modCount_b2.ext E8
  have F_elementData_b2 := F_elementData_b2.ext E8
  have O := own_ext_trans O E8
  have KP := KP.ext E8
  have E_b8 := A8
  have F_modCount_b8 : Fld Z h8 b8 "java/util/AbstractList" "modCount" "I" (.int (0 : Int32)) := D8 (Or.inl (hw _ (List.mem_of_getElem? (i := 44) rfl))) (ty := .int) (by decide)
  have F_elementData_b8 : Fld Z h8 b8 "java/util/ArrayList" "elementData" "[Ljava/lang/Object;" .null := D8 (Or.inl (hw _ (List.mem_of_getElem? (i := 47) rfl))) (ty := (.array (.object "java/lang/Object"))) (by decide)
  refine own_st (T' := T8) (F' := (mkF m 30 #[.val (.ref a1), .val p1, .val p2, .val p3, .val (.int p4), .val (.int p5)] [(.ref b8), (.ref a1)])) st8 ?_
  refine own_st (T' := T8) (F' := (mkF m 31 #[.val (.ref a1), .val p1, .val p2, .val p3, .val (.int p4), .val (.int p5)] [(.ref b8), (.ref b8), (.ref a1)])) (fun t k => XS.dup X8.here hx rfl (hb hby d2_30) rfl rfl k) ?_
  obtain ⟨v9, _, ⟨T9, L9, k9, n9⟩, -, X9, ⟨Lc9, hQ9, l9, y9, z9⟩, st9⟩ := X8.specialBack hx (y := (⟨"java/util/ArrayList", "<init>", "()V"⟩ : MethodName)) rfl hown (mvT hZ (hw _ (List.mem_of_getElem? (i := 27) rfl))) (mvT hZ (hw _ (List.mem_of_getElem? (i := 28) rfl))) (mvT hZ (hw _ (List.mem_of_getElem? (i := 29) rfl))) (by decide) (backOf (W := 2) (rm4 l Z a0 CX [] b8 (0 : Int32) .null rfl h8 O E_b8 g_b8 F_modCount_b8 F_elementData_b8) hZ (hw _ (List.mem_of_getElem? (i := 29) rfl)) (hw _ (List.mem_of_getElem? (i := 26) rfl)) (by decide) (by decide)) (g := (mkF m 31 #[.val (.ref a1), .val p1, .val p2, .val p3, .val (.int p4), .val (.int p5)] [(.ref b8), (.ref b8), (.ref a1)])) rfl (by rw [hml]; rfl) (Steps.refl _) (a := b8) (argsL := []) (rest := [(.ref b8), (.ref a1)]) (lenOf pd_0 rfl) rfl (by show 2 * 0 + _ ≤ _; exact Nat.le_of_eq rfl) (hb hby d2_31) (fun _ _ => ⟨rfl, e8, (by decide : 3 + 0 ≤ _), (by decide : 8 + 0 ≤ _)⟩)
  dsimp only [Pt.U, Pt.locs, Pt.cells, Pt.slots] at X9 l9 y9 z9 st9 hQ9
  subst l9 y9 z9
  obtain ⟨rfl, N9q, K9, F_modCount_b8, F_elementData_b8⟩ := hQ9
  have N := Fr.app N N9q
  have E_a1 := E_a1.keep K9
  have F_children := F_children.keep K9 (ninS ne_a1_b8 nin0)
  have F_childrenView := F_childrenView.keep K9 (ninS ne_a1_b8 nin0)
  have F_notes := F_notes.keep K9 (ninS ne_a1_b8 nin0)
  have F_history := F_history.keep K9 (ninS ne_a1_b8 nin0)
  have F_footnotes := F_footnotes.keep K9 (ninS ne_a1_b8 nin0)
  have F_parts := F_parts.keep K9 (ninS ne_a1_b8 nin0)
  have F_citations := F_citations.keep K9 (ninS ne_a1_b8 nin0)
  have F_kind := F_kind.keep K9 (ninS ne_a1_b8 nin0)
  have F_number := F_number.keep K9 (ninS ne_a1_b8 nin0)
  have F_title := F_title.keep K9 (ninS ne_a1_b8 nin0)
  have F_line := F_line.keep K9 (ninS ne_a1_b8 nin0)
  have F_malformed := F_malformed.keep K9 (ninS ne_a1_b8 nin0)
  have E_b2 := E_b2.keep K9
  have F_modCount_b2 := F_modCount_b2.keep K9 (ninS ne_b2_b8 nin0)
  have F_elementData_b2 := F_elementData_b2.keep K9 (ninS ne_b2_b8 nin0)
  have E_b8 := E_b8.keep K9
  have O := own_O_keep O K9 (allS g_b8 all0)
  have KP := KP.trans K9 (allS (Or.inr k_b8) all0)
  refine own_tr (T' := T9) (F' := (mkF m 34 #[.val (.ref a1), .val p1, .val p2, .val p3, .val (.int p4), .val (.int p5)] [(.ref b8), (.ref a1)])) st9 ?_
  obtain ⟨T10, h10, X10, e10, W10, st10⟩ := putF X9 hx hZ hown (host := "") (Or.inl (hw _ (List.mem_of_getElem? (i := 95) rfl))) Via.refl rfl F_notes E_a1 (Or.inr ⟨(hw _ (List.mem_of_getElem? (i := 96) rfl)), rfl, hnm⟩) (hw _ (List.mem_of_getElem? (i := 8) rfl)) (ty := (.object "java/util/List")) (by decide) rfl rfl (g := (mkF m 34 #[.val (.ref a1), .val p1, .val p2, .val p3, .val (.int p4), .val (.int p5)] [(.ref b8), (.ref a1)])) rfl rfl (hb hby d2_34)
  have E_a1 := E_a1.wr W10
  have F_children := F_children.other W10 (Or.inr (slot_ne (Or.inr (hw _ (List.mem_of_getElem? (i := 49) rfl))) (Or.inr (hw _ (List.mem_of_getElem? (i := 96) rfl))) (by decide) (t := (.object "java/util/List")) (t' := (.object "java/util/List")) (by decide) (by decide)))
  have F_childrenView := F_childrenView.other W10 (Or.inr (slot_ne (Or.inr (hw _ (List.mem_of_getElem? (i := 94) rfl))) (Or.inr (hw _ (List.mem_of_getElem? (i := 96) rfl))) (by decide) (t := (.object "java/util/List")) (t' := (.object "java/util/List")) (by decide) (by decide)))
  have F_history := F_history.other W10 (Or.inr (slot_ne (Or.inr (hw _ (List.mem_of_getElem? (i := 98) rfl))) (Or.inr (hw _ (List.mem_of_getElem? (i := 96) rfl))) (by decide) (t := (.object "java/util/List")) (t' := (.object "java/util/List")) (by decide) (by decide)))
  have F_footnotes := F_footnotes.other W10 (Or.inr (slot_ne (Or.inr (hw _ (List.mem_of_getElem? (i := 100) rfl))) (Or.inr (hw _ (List.mem_of_getElem? (i := 96) rfl))) (by decide) (t := (.object "java/util/List")) (t' := (.object "java/util/List")) (by decide) (by decide)))
  have F_parts := F_parts.other W10 (Or.inr (slot_ne (Or.inl (hw _ (List.mem_of_getElem? (i := 108) rfl))) (Or.inr (hw _ (List.mem_of_getElem? (i := 96) rfl))) (by decide) (t := (.object "java/util/List")) (t' := (.object "java/util/List")) (by decide) (by decide)))
  have F_citations := F_citations.other W10 (Or.inr (slot_ne (Or.inr (hw _ (List.mem_of_getElem? (i := 110) rfl))) (Or.inr (hw _ (List.mem_of_getElem? (i := 96) rfl))) (by decide) (t := (.object "java/util/List")) (t' := (.object "java/util/List")) (by decide) (by decide)))
  have F_kind := F_kind.other W10 (Or.inr (slot_ne (Or.inr (hw _ (List.mem_of_getElem? (i := 112) rfl))) (Or.inr (hw _ (List.mem_of_getElem? (i := 96) rfl))) (by decide) (t := (.object "com/example/catchline/catchline/Kind")) (t' := (.object "java/util/List")) (by decide) (by decide)))
  have F_number := F_number.other W10 (Or.inr (slot_ne (Or.inr (hw _ (List.mem_of_getElem? (i := 114) rfl))) (Or.inr (hw _ (List.mem_of_getElem? (i := 96) rfl))) (by decide) (t := (.object "java/lang/String")) (t' := (.object "java/util/List")) (by decide) (by decide)))
  have F_title := F_title.other W10 (Or.inr (slot_ne (Or.inr (hw _ (List.mem_of_getElem? (i := 116) rfl))) (Or.inr (hw _ (List.mem_of_getElem? (i := 96) rfl))) (by decide) (t := (.object "java/lang/String")) (t' := (.object "java/util/List")) (by decide) (by decide)))
  have F_line := F_line.other W10 (Or.inr (slot_ne (Or.inr (hw _ (List.mem_of_getElem? (i := 118) rfl))) (Or.inr (hw _ (List.mem_of_getElem? (i := 96) rfl))) (by decide) (t := .int) (t' := (.object "java/util/List")) (by decide) (by decide)))
  have F_malformed := F_malformed.other W10 (Or.inr (slot_ne (Or.inr (hw _ (List.mem_of_getElem? (i := 120) rfl))) (Or.inr (hw _ (List.mem_of_getElem? (i := 96) rfl))) (by decide) (t := .boolean) (t' := (.object "java/util/List")) (by decide) (by decide)))
  have E_b2 := E_b2.wr W10
  have F_modCount_b2 := F_modCount_b2.other W10 (Or.inl (Ne.symm ne_a1_b2))
  have F_elementData_b2 := F_elementData_b2.other W10 (Or.inl (Ne.symm ne_a1_b2))
  have E_b8 := E_b8.wr W10
  have F_modCount_b8 := F_modCount_b8.other W10 (Or.inl (Ne.symm ne_a1_b8))
  have F_elementData_b8 := F_elementData_b8.other W10 (Or.inl (Ne.symm ne_a1_b8))
  have O := own_O_wr O W10 g_a1
  have N := Fr.snoc X10 N g_a1
  have KP := KP.wr W10 (Or.inl (List.mem_of_getElem? (i := 0) rfl))
  have F_notes := F_notes.same W10
  refine own_st (T' := T10) (F' := (mkF m 37 #[.val (.ref a1), .val p1, .val p2, .val p3, .val (.int p4), .val (.int p5)] [])) st10 ?_
  refine own_st (T' := T10) (F' := (mkF m 38 #[.val (.ref a1), .val p1, .val p2, .val p3, .val (.int p4), .val (.int p5)] [(.ref a1)])) (fun t k => XS.aloadN X10.here hx rfl (hb hby d2_37) rfl rfl k) ?_
  obtain ⟨T11, h11, X11, e11, E11, A11, D11, U11, st11⟩ := newO X10 hx hZ hown (hw _ (List.mem_of_getElem? (i := 24) rfl)) (hw _ (List.mem_of_getElem? (i := 25) rfl)) (hw _ (List.mem_of_getElem? (i := 26) rfl)) e10 (g := (mkF m 38 #[.val (.ref a1), .val p1, .val p2, .val p3, .val (.int p4), .val (.int p5)] [(.ref a1)])) rfl (hb hby d2_38) (by decide) (by decide)
  obtain ⟨b11, g11⟩ : ∃ z, z = h10.size := ⟨_, rfl⟩
  rw [← g11] at A11 D11 U11 st11
  have ne_a1_b11 : a1 ≠ b11 := Nat.ne_of_lt (Nat.lt_of_lt_of_le E_a1.lt (Nat.le_of_eq g11.symm))
  have ne_b2_b11 : b2 ≠ b11 := Nat.ne_of_lt (Nat.lt_of_lt_of_le E_b2.lt (Nat.le_of_eq g11.symm))
  have ne_b8_b11 : b8 ≠ b11 := Nat.ne_of_lt (Nat.lt_of_lt_of_le E_b8.lt (Nat.le_of_eq g11.symm))
  have g_b11 : Z.heap.size ≤ b11 := Nat.le_trans O.1 (Nat.le_of_eq g11.symm)
  have k_b11 : h0.size ≤ b11 := Nat.le_trans KP.1 (Nat.le_of_eq g11.symm)
  have E_a1 := E_a1.ext E11
  have F_children := F_children.ext E11
  have F_childrenView := F_childrenView.ext E11
  have F_notes := F_notes.ext E11
  have F_history := F_history.ext E11
  have F_footnotes := F_footnotes.ext E11
  have F_parts := F_parts.ext E11
  have F_citations := F_citations.ext E11
  have F_kind := F_kind.ext E11
  have F_number := F_number.ext E11
  have F_title := F_title.ext E11
  have F_line := F_line.ext E11
  have F_malformed := F_malformed.ext E11
  have E_b2 := E_b2.ext E11
  have F_modCount_b2 := F_modCount_b2.ext E11
  have F_elementData_b2 := F_elementData_b2.ext E11
  have E_b8 := E_b8.ext E11
  have F_modCount_b8 := F_modCount_b8.ext E11
  have F_elementData_b8 := F_elementData_b8.ext E11
  have O := own_ext_trans O E11
  have KP := KP.ext E11
  have E_b11 := A11
  have F_modCount_b11 : Fld Z h11 b11 "java/util/AbstractList" "modCount" "I" (.int (0 : Int32)) := D11 (Or.inl (hw _ (List.mem_of_getElem? (i := 44) rfl))) (ty := .int) (by decide)
  have F_elementData_b11 : Fld Z h11 b11 "java/util/ArrayList" "elementData" "[Ljava/lang/Object;" .null := D11 (Or.inl (hw _ (List.mem_of_getElem? (i := 47) rfl))) (ty := (.array (.object "java/lang/Object"))) (by decide)
  refine own_st (T' := T11) (F' := (mkF m 41 #[.val (.ref a1), .val p1, .val p2, .val p3, .val (.int p4), .val (.int p5)] [(.ref b11), (.ref a1)])) st11 ?_
  refine own_st (T' := T11) (F' := (mkF m 42 #[.val (.ref a1), .val p1, .val p2, .val p3, .val (.int p4), .val (.int p5)] [(.ref b11), (.ref b11), (.ref a1)])) (fun t k => XS.dup X11.here hx rfl (hb hby d2_41) rfl rfl k) ?_
  obtain ⟨v12, _, ⟨T12, L12, k12, n12⟩, -, X12, ⟨Lc12, hQ12, l12, y12, z12⟩, st12⟩ := X11.specialBack hx (y := (⟨"java/util/ArrayList", "<init>", "()V"⟩ : MethodName)) rfl hown (mvT hZ (hw _ (List.mem_of_getElem? (i := 27) rfl))) (mvT hZ (hw _ (List.mem_of_getElem? (i := 28) rfl))) (mvT hZ (hw _ (List.mem_of_getElem? (i := 29) rfl))) (by decide) (backOf (W := 2) (rm4 l Z a0 CX [] b11 (0 : Int32) .null rfl h11 O E_b11 g_b11 F_modCount_b11 F_elementData_b11) hZ (hw _ (List.mem_of_getElem? (i := 29) rfl)) (hw _ (List.mem_of_getElem? (i := 26) rfl)) (by decide) (by decide)) (g := (mkF m 42 #[.val (.ref a1), .val p1, .val p2, .val p3, .val (.int p4), .val (.int p5)] [(.ref b11), (.ref b11), (.ref a1)])) rfl (by rw [hml]; rfl) (Steps.refl _) (a := b11) (argsL := []) (rest := [(.ref b11), (.ref a1)]) (lenOf pd_0 rfl) rfl (by show 2 * 0 + _ ≤ _; exact Nat.le_of_eq rfl) (hb hby d2_42) (fun _ _ => ⟨rfl, e11, (by decide : 4 + 0 ≤ _), (by decide : 11 + 0 ≤ _)⟩)
  dsimp only [Pt.U, Pt.locs, Pt.cells, Pt.slots] at X12 l12 y12 z12 st12 hQ12
  subst l12 y12 z12
  obtain ⟨rfl, N12q, K12, F_modCount_b11, F_elementData_b11⟩ := hQ12
  have N := Fr.app N N12q
  have E_a1 := E_a1.keep K12
  have F_children := F_children.keep K12 (ninS ne_a1_b11 nin0)
  have F_childrenView := F_childrenView.keep K12 (ninS ne_a1_b11 nin0)
  have F_notes := F_notes.keep K12 (ninS ne_a1_b11 nin0)
  have F_history := F_history.keep K12 (ninS ne_a1_b11 nin0)
  have F_footnotes := F_footnotes.keep K12 (ninS ne_a1_b11 nin0)
  have F_parts := F_parts.keep K12 (ninS ne_a1_b11 nin0)
  have F_citations := F_citations.keep K12 (ninS ne_a1_b11 nin0)
  have F_kind := F_kind.keep K12 (ninS ne_a1_b11 nin0)
  have F_number := F_number.keep K12 (ninS ne_a1_b11 nin0)
  have F_title := F_title.keep K12 (ninS ne_a1_b11 nin0)
  have F_line := F_line.keep K12 (ninS ne_a1_b11 nin0)
  have F_malformed := F_malformed.keep K12 (ninS ne_a1_b11 nin0)
  have E_b2 := E_b2.keep K12
  have F_modCount_b2 := F_modCount_b2.keep K12 (ninS ne_b2_b11 nin0)
  have F_elementData_b2 := F_elementData_b2.keep K12 (ninS ne_b2_b11 nin0)
  have E_b8 := E_b8.keep K12
  have F_modCount_b8 := F_modCount_b8.keep K12 (ninS ne_b8_b11 nin0)
  have F_elementData_b8 := F_elementData_b8.keep K12 (ninS ne_b8_b11 nin0)
  have E_b11 := E_b11.keep K12
  have O := own_O_keep O K12 (allS g_b11 all0)
  have KP := KP.trans K12 (allS (Or.inr k_b11) all0)
  refine own_tr (T' := T12) (F' := (mkF m 45 #[.val (.ref a1), .val p1, .val p2, .val p3, .val (.int p4), .val (.int p5)] [(.ref b11), (.ref a1)])) st12 ?_
  obtain ⟨T13, h13, X13, e13, W13, st13⟩ := putF X12 hx hZ hown (host := "") (Or.inl (hw _ (List.mem_of_getElem? (i := 97) rfl))) Via.refl rfl F_history E_a1 (Or.inr ⟨(hw _ (List.mem_of_getElem? (i := 98) rfl)), rfl, hnm⟩) (hw _ (List.mem_of_getElem? (i := 8) rfl)) (ty := (.object "java/util/List")) (by decide) rfl rfl (g := (mkF m 45 #[.val (.ref a1), .val p1, .val p2, .val p3, .val (.int p4), .val (.int p5)] [(.ref b11), (.ref a1)])) rfl rfl (hb hby d2_45)
  have E_a1 := E_a1.wr W13
  have F_children := F_children.other W13 (Or.inr (slot_ne (Or.inr (hw _ (List.mem_of_getElem? (i := 49) rfl))) (Or.inr (hw _ (List.mem_of_getElem? (i := 98) rfl))) (by decide) (t := (.object "java/util/List")) (t' := (.object "java/util/List")) (by decide) (by decide)))
  have F_childrenView := F_childrenView.other W13 (Or.inr (slot_ne (Or.inr (hw _ (List.mem_of_getElem? (i := 94) rfl))) (Or.inr (hw _ (List.mem_of_getElem? (i := 98) rfl))) (by decide) (t := (.object "java/util/List")) (t' := (.object "java/util/List")) (by decide) (by decide)))
  have F_notes := F_notes.other W13 (Or.inr (slot_ne (Or.inr (hw _ (List.mem_of_getElem? (i := 96) rfl))) (Or.inr (hw _ (List.mem_of_getElem? (i := 98) rfl))) (by decide) (t := (.object "java/util/List")) (t' := (.object "java/util/List")) (by decide) (by decide)))
  have F_footnotes := F_footnotes.other W13 (Or.inr (slot_ne (Or.inr (hw _ (List.mem_of_getElem? (i := 100) rfl))) (Or.inr (hw _ (List.mem_of_getElem? (i := 98) rfl))) (by decide) (t := (.object "java/util/List")) (t' := (.object "java/util/List")) (by decide) (by decide)))
  have F_parts := F_parts.other W13 (Or.inr (slot_ne (Or.inl (hw _ (List.mem_of_getElem? (i := 108) rfl))) (Or.inr (hw _ (List.mem_of_getElem? (i := 98) rfl))) (by decide) (t := (.object "java/util/List")) (t' := (.object "java/util/List")) (by decide) (by decide)))
  have F_citations := F_citations.other W13 (Or.inr (slot_ne (Or.inr (hw _ (List.mem_of_getElem? (i := 110) rfl))) (Or.inr (hw _ (List.mem_of_getElem? (i := 98) rfl))) (by decide) (t := (.object "java/util/List")) (t' := (.object "java/util/List")) (by decide) (by decide)))
  have F_kind := F_kind.other W13 (Or.inr (slot_ne (Or.inr (hw _ (List.mem_of_getElem? (i := 112) rfl))) (Or.inr (hw _ (List.mem_of_getElem? (i := 98) rfl))) (by decide) (t := (.object "com/example/catchline/catchline/Kind")) (t' := (.object "java/util/List")) (by decide) (by decide)))
  have F_number := F_number.other W13 (Or.inr (slot_ne (Or.inr (hw _ (List.mem_of_getElem? (i := 114) rfl))) (Or.inr (hw _ (List.mem_of_getElem? (i := 98) rfl))) (by decide) (t := (.object "java/lang/String")) (t' := (.object "java/util/List")) (by decide) (by decide)))
  have F_title := F_title.other W13 (Or.inr (slot_ne (Or.inr (hw _ (List.mem_of_getElem? (i := 116) rfl))) (Or.inr (hw _ (List.mem_of_getElem? (i := 98) rfl))) (by decide) (t := (.object "java/lang/String")) (t' := (.object "java/util/List")) (by decide) (by decide)))
  have F_line := F_line.other W13 (Or.inr (slot_ne (Or.inr (hw _ (List.mem_of_getElem? (i := 118) rfl))) (Or.inr (hw _ (List.mem_of_getElem? (i := 98) rfl))) (by decide) (t := .int) (t' := (.object "java/util/List")) (by decide) (by decide)))
  have F_malformed := F_malformed.other W13 (Or.inr (slot_ne (Or.inr (hw _ (List.mem_of_getElem? (i := 120) rfl))) (Or.inr (hw _ (List.mem_of_getElem? (i := 98) rfl))) (by decide) (t := .boolean) (t' := (.object "java/util/List")) (by decide) (by decide)))
  have E_b2 := E_b2.wr W13
  have F_modCount_b2 := F_modCount_b2.other W13 (Or.inl (Ne.symm ne_a1_b2))
  have F_elementData_b2 := F_elementData_b2.other W13 (Or.inl (Ne.symm ne_a1_b2))
  have E_b8 := E_b8.wr W13
  have F_modCount_b8 := F_modCount_b8.other W13 (Or.inl (Ne.symm ne_a1_b8))
  have F_elementData_b8 := F_elementData_b8.other W13 (Or.inl (Ne.symm ne_a1_b8))
  have E_b11 := E_b11.wr W13
  have F_modCount_b11 := F_modCount_b11.other W13 (Or.inl (Ne.symm ne_a1_b11))
  have F_elementData_b11 := F_elementData_b11.other W13 (Or.inl (Ne.symm ne_a1_b11))
  have O := own_O_wr O W13 g_a1
  have N := Fr.snoc X13 N g_a1
  have KP := KP.wr W13 (Or.inl (List.mem_of_getElem? (i := 0) rfl))
  have F_history := F_history.same W13
  refine own_st (T' := T13) (F' := (mkF m 48 #[.val (.ref a1), .val p1, .val p2, .val p3, .val (.int p4), .val (.int p5)] [])) st13 ?_
  refine own_st (T' := T13) (F' := (mkF m 49 #[.val (.ref a1), .val p1, .val p2, .val p3, .val (.int p4), .val (.int p5)] [(.ref a1)])) (fun t k => XS.aloadN X13.here hx rfl (hb hby d2_48) rfl rfl k) ?_
  obtain ⟨T14, h14, X14, e14, E14, A14, D14, U14, st14⟩ := newO X13 hx hZ hown (hw _ (List.mem_of_getElem? (i := 24) rfl)) (hw _ (List.mem_of_getElem? (i := 25) rfl)) (hw _ (List.mem_of_getElem? (i := 26) rfl)) e13 (g := (mkF m 49 #[.val (.ref a1), .val p1, .val p2, .val p3, .val (.int p4), .val (.int p5)] [(.ref a1)])) rfl (hb hby d2_49) (by decide) (by decide)
  obtain ⟨b14, g14⟩ : ∃ z, z = h13.size := ⟨_, rfl⟩
  rw [← g14] at A14 D14 U14 st14
  have ne_a1_b14 : a1 ≠ b14 := Nat.ne_of_lt (Nat.lt_of_lt_of_le E_a1.lt (Nat.le_of_eq g14.symm))
  have ne_b2_b14 : b2 ≠ b14 := Nat.ne_of_lt (Nat.lt_of_lt_of_le E_b2.lt (Nat.le_of_eq g14.symm))
  have ne_b8_b14 : b8 ≠ b14 := Nat.ne_of_lt (Nat.lt_of_lt_of_le E_b8.lt (Nat.le_of_eq g14.symm))
  have ne_b11_b14 : b11 ≠ b14 := Nat.ne_of_lt (Nat.lt_of_lt_of_le E_b11.lt (Nat.le_of_eq g14.symm))
  have g_b14 : Z.heap.size ≤ b14 := Nat.le_trans O.1 (Nat.le_of_eq g14.symm)
  have k_b14 : h0.size ≤ b14 := Nat.le_trans KP.1 (Nat.le_of_eq g14.symm)
  have E_a1 := E_a1.ext E14
  have F_children := F_children.ext E14
  have F_childrenView := F_childrenView.ext E14
  have F_notes := F_notes.ext E14
  have F_history := F_history.ext E14
  have F_footnotes := F_footnotes.ext E14
  have F_parts := F_parts.ext E14
  have F_citations := F_citations.ext E14
  have F_kind := F_kind.ext E14
  have F_number := F_number.ext E14
  have F_title := F_title.ext E14
  have F_line := F_line.ext E14
  have F_malformed := F_malformed.ext E14
  have E_b2 := E_b2.ext E14
  have F_modCount_b2 := F_modCount_b2.ext E14
  have F_elementData_b2 := F_elementData_b2.ext E14
  have E_b8 := E_b8.ext E14
  have F_modCount_b8 := F_modCount_b8.ext E14
  have F_elementData_b8 := F_elementData_b8.ext E14
  have E_b11 := E_b11.ext E14
  have F_modCount_b11 := F_modCount_b11.ext E14
  have F_elementData_b11 := F_elementData_b11.ext E14
  have O := own_ext_trans O E14
  have KP := KP.ext E14
  have E_b14 := A14
  have F_modCount_b14 : Fld Z h14 b14 "java/util/AbstractList" "modCount" "I" (.int (0 : Int32)) := D14 (Or.inl (hw _ (List.mem_of_getElem? (i := 44) rfl))) (ty := .int) (by decide)
  have F_elementData_b14 : Fld Z h14 b14 "java/util/ArrayList" "elementData" "[Ljava/lang/Object;" .null := D14 (Or.inl (hw _ (List.mem_of_getElem? (i := 47) rfl))) (ty := (.array (.object "java/lang/Object"))) (by decide)
  refine own_st (T' := T14) (F' := (mkF m 52 #[.val (.ref a1), .val p1, .val p2, .val p3, .val (.int p4), .val (.int p5)] [(.ref b14), (.ref a1)])) st14 ?_
  refine own_st (T' := T14) (F' := (mkF m 53 #[.val (.ref a1), .val p1, .val p2, .val p3, .val (.int p4), .val (.int p5)] [(.ref b14), (.ref b14), (.ref a1)])) (fun t k => XS.dup X14.here hx rfl (hb hby d2_52) rfl rfl k) ?_
  obtain ⟨v15, _, ⟨T15, L15, k15, n15⟩, -, X15, ⟨Lc15, hQ15, l15, y15, z15⟩, st15⟩ := X14.specialBack hx (y := (⟨"java/util/ArrayList", "<init>", "()V"⟩ : MethodName)) rfl hown (mvT hZ (hw _ (List.mem_of_getElem? (i := 27) rfl))) (mvT hZ (hw _ (List.mem_of_getElem? (i := 28) rfl))) (mvT hZ (hw _ (List.mem_of_getElem? (i := 29) rfl))) (by decide) (backOf (W := 2) (rm4 l Z a0 CX [] b14 (0 : Int32) .null rfl h14 O E_b14 g_b14 F_modCount_b14 F_elementData_b14) hZ (hw _ (List.mem_of_getElem? (i := 29) rfl)) (hw _ (List.mem_of_getElem? (i := 26) rfl)) (by decide) (by decide)) (g := (mkF m 53 #[.val (.ref a1), .val p1, .val p2, .val p3, .val (.int p4), .val (.int p5)] [(.ref b14), (.ref b14), (.ref a1)])) rfl (by rw [hml]; rfl) (Steps.refl _) (a := b14) (argsL := []) (rest := [(.ref b14), (.ref a1)]) (lenOf pd_0 rfl) rfl (by show 2 * 0 + _ ≤ _; exact Nat.le_of_eq rfl) (hb hby d2_53) (fun _ _ => ⟨rfl, e14, (by decide : 5 + 0 ≤ _), (by decide : 14 + 0 ≤ _)⟩)
  dsimp only [Pt.U, Pt.locs, Pt.cells, Pt.slots] at X15 l15 y15 z15 st15 hQ15
  subst l15 y15 z15
  obtain ⟨rfl, N15q, K15, F_modCount_b14, F_elementData_b14⟩ := hQ15
  have N := Fr.app N N15q
  have E_a1 := E_a1.keep K15
  have F_children := F_children.keep K15 (ninS ne_a1_b14 nin0)
  have F_childrenView := F_childrenView.keep K15 (ninS ne_a1_b14 nin0)
  have F_notes := F_notes.keep K15 (ninS ne_a1_b14 nin0)
  have F_history := F_history.keep K15 (ninS ne_a1_b14 nin0)
  have F_footnotes := F_footnotes.keep K15 (ninS ne_a1_b14 nin0)
  have F_parts := F_parts.keep K15 (ninS ne_a1_b14 nin0)
  have F_citations := F_citations.keep K15 (ninS ne_a1_b14 nin0)
  have F_kind := F_kind.keep K15 (ninS ne_a1_b14 nin0)
  have F_number := F_number.keep K15 (ninS ne_a1_b14 nin0)
  have F_title := F_title.keep K15 (ninS ne_a1_b14 nin0)
  have F_line := F_line.keep K15 (ninS ne_a1_b14 nin0)
  have F_malformed := F_malformed.keep K15 (ninS ne_a1_b14 nin0)
  have E_b2 := E_b2.keep K15
  have F_modCount_b2 := F_modCount_b2.keep K15 (ninS ne_b2_b14 nin0)
  have F_elementData_b2 := F_elementData_b2.keep K15 (ninS ne_b2_b14 nin0)
  have E_b8 := E_b8.keep K15
  have F_modCount_b8 := F_modCount_b8.keep K15 (ninS ne_b8_b14 nin0)
  have F_elementData_b8 := F_elementData_b8.keep K15 (ninS ne_b8_b14 nin0)
  have E_b11 := E_b11.keep K15
  have F_modCount_b11 := F_modCount_b11.keep K15 (ninS ne_b11_b14 nin0)
  have F_elementData_b11 := F_elementData_b11.keep K15 (ninS ne_b11_b14 nin0)
  have E_b14 := E_b14.keep K15
  have O := own_O_keep O K15 (allS g_b14 all0)
  have KP := KP.trans K15 (allS (Or.inr k_b14) all0)
  refine own_tr (T' := T15) (F' := (mkF m 56 #[.val (.ref a1), .val p1, .val p2, .val p3, .val (.int p4), .val (.int p5)] [(.ref b14), (.ref a1)])) st15 ?_
  obtain ⟨T16, h16, X16, e16, W16, st16⟩ := putF X15 hx hZ hown (host := "") (Or.inl (hw _ (List.mem_of_getElem? (i := 99) rfl))) Via.refl rfl F_footnotes E_a1 (Or.inr ⟨(hw _ (List.mem_of_getElem? (i := 100) rfl)), rfl, hnm⟩) (hw _ (List.mem_of_getElem? (i := 8) rfl)) (ty := (.object "java/util/List")) (by decide) rfl rfl (g := (mkF m 56 #[.val (.ref a1), .val p1, .val p2, .val p3, .val (.int p4), .val (.int p5)] [(.ref b14), (.ref a1)])) rfl rfl (hb hby d2_56)
  have E_a1 := E_a1.wr W16
  have F_children := F_children.other W16 (Or.inr (slot_ne (Or.inr (hw _ (List.mem_of_getElem? (i := 49) rfl))) (Or.inr (hw _ (List.mem_of_getElem? (i := 100) rfl))) (by decide) (t := (.object "java/util/List")) (t' := (.object "java/util/List")) (by decide) (by decide)))
  have F_childrenView := F_childrenView.other W16 (Or.inr (slot_ne (Or.inr (hw _ (List.mem_of_getElem? (i := 94) rfl))) (Or.inr (hw _ (List.mem_of_getElem? (i := 100) rfl))) (by decide) (t := (.object "java/util/List")) (t' := (.object "java/util/List")) (by decide) (by decide)))
  have F_notes := F_notes.other W16 (Or.inr (slot_ne (Or.inr (hw _ (List.mem_of_getElem? (i := 96) rfl))) (Or.inr (hw _ (List.mem_of_getElem? (i := 100) rfl))) (by decide) (t := (.object "java/util/List")) (t' := (.object "java/util/List")) (by decide) (by decide)))
  have F_history := F_history.other W16 (Or.inr (slot_ne (Or.inr (hw _ (List.mem_of_getElem? (i := 98) rfl))) (Or.inr (hw _ (List.mem_of_getElem? (i := 100) rfl))) (by decide) (t := (.object "java/util/List")) (t' := (.object "java/util/List")) (by decide) (by decide)))
  have F_parts := F_parts.other W16 (Or.inr (slot_ne (Or.inl (hw _ (List.mem_of_getElem? (i := 108) rfl))) (Or.inr (hw _ (List.mem_of_getElem? (i := 100) rfl))) (by decide) (t := (.object "java/util/List")) (t' := (.object "java/util/List")) (by decide) (by decide)))
  have F_citations := F_citations.other W16 (Or.inr (slot_ne (Or.inr (hw _ (List.mem_of_getElem? (i := 110) rfl))) (Or.inr (hw _ (List.mem_of_getElem? (i := 100) rfl))) (by decide) (t := (.object "java/util/List")) (t' := (.object "java/util/List")) (by decide) (by decide)))
  have F_kind := F_kind.other W16 (Or.inr (slot_ne (Or.inr (hw _ (List.mem_of_getElem? (i := 112) rfl))) (Or.inr (hw _ (List.mem_of_getElem? (i := 100) rfl))) (by decide) (t := (.object "com/example/catchline/catchline/Kind")) (t' := (.object "java/util/List")) (by decide) (by decide)))
  have F_number := F_number.other W16 (Or.inr (slot_ne (Or.inr (hw _ (List.mem_of_getElem? (i := 114) rfl))) (Or.inr (hw _ (List.mem_of_getElem? (i := 100) rfl))) (by decide) (t := (.object "java/lang/String")) (t' := (.object "java/util/List")) (by decide) (by decide)))
  have F_title := F_title.other W16 (Or.inr (slot_ne (Or.inr (hw _ (List.mem_of_getElem? (i := 116) rfl))) (Or.inr (hw _ (List.mem_of_getElem? (i := 100) rfl))) (by decide) (t := (.object "java/lang/String")) (t' := (.object "java/util/List")) (by decide) (by decide)))
  have F_line := F_line.other W16 (Or.inr (slot_ne (Or.inr (hw _ (List.mem_of_getElem? (i := 118) rfl))) (Or.inr (hw _ (List.mem_of_getElem? (i := 100) rfl))) (by decide) (t := .int) (t' := (.object "java/util/List")) (by decide) (by decide)))
  have F_malformed := F_malformed.other W16 (Or.inr (slot_ne (Or.inr (hw _ (List.mem_of_getElem? (i := 120) rfl))) (Or.inr (hw _ (List.mem_of_getElem? (i := 100) rfl))) (by decide) (t := .boolean) (t' := (.object "java/util/List")) (by decide) (by decide)))
  have E_b2 := E_b2.wr W16
  have F_modCount_b2 := F_modCount_b2.other W16 (Or.inl (Ne.symm ne_a1_b2))
  have F_elementData_b2 := F_elementData_b2.other W16 (Or.inl (Ne.symm ne_a1_b2))
  have E_b8 := E_b8.wr W16
  have F_modCount_b8 := F_modCount_b8.other W16 (Or.inl (Ne.symm ne_a1_b8))
  have F_elementData_b8 := F_elementData_b8.other W16 (Or.inl (Ne.symm ne_a1_b8))
  have E_b11 := E_b11.wr W16
  have F_modCount_b11 := F_modCount_b11.other W16 (Or.inl (Ne.symm ne_a1_b11))
  have F_elementData_b11 := F_elementData_b11.other W16 (Or.inl (Ne.symm ne_a1_b11))
  have E_b14 := E_b14.wr W16
  have F_modCount_b14 := F_modCount_b14.other W16 (Or.inl (Ne.symm ne_a1_b14))
  have F_elementData_b14 := F_elementData_b14.other W16 (Or.inl (Ne.symm ne_a1_b14))
  have O := own_O_wr O W16 g_a1
  have N := Fr.snoc X16 N g_a1
  have KP := KP.wr W16 (Or.inl (List.mem_of_getElem? (i := 0) rfl))
  have F_footnotes := F_footnotes.same W16
  refine own_st (T' := T16) (F' := (mkF m 59 #[.val (.ref a1), .val p1, .val p2, .val p3, .val (.int p4), .val (.int p5)] [])) st16 ?_
  refine own_st (T' := T16) (F' := (mkF m 60 #[.val (.ref a1), .val p1, .val p2, .val p3, .val (.int p4), .val (.int p5)] [(.ref a1)])) (fun t k => XS.aloadN X16.here hx rfl (hb hby d2_59) rfl rfl k) ?_
  obtain ⟨v17, _, ⟨T17, L17, k17, n17⟩, -, X17, ⟨Lc17, hQ17, l17, y17, z17⟩, st17⟩ := Jvm.LawKit.callS X16 hx (y := (⟨"java/util/List", "of", "()Ljava/util/List;"⟩ : MethodName)) hown (mvT hZ (hw _ (List.mem_of_getElem? (i := 101) rfl))) (mvT hZ (hw _ (List.mem_of_getElem? (i := 102) rfl))) (mvT hZ (hw _ (List.mem_of_getElem? (i := 103) rfl))) (mvT hZ (hw _ (List.mem_of_getElem? (i := 104) rfl))) (by decide) (backOf (W := 1) (rm11 l Z a0 CX [] h16 O) hZ (hw _ (List.mem_of_getElem? (i := 104) rfl)) (hw _ (List.mem_of_getElem? (i := 103) rfl)) (by decide) (by decide)) (g := (mkF m 60 #[.val (.ref a1), .val p1, .val p2, .val p3, .val (.int p4), .val (.int p5)] [(.ref a1)])) rfl (by rw [hml]; rfl) (argsL := []) (rest := [(.ref a1)]) (lenOf pd_4 rfl) rfl (by show 2 * 0 + _ ≤ _; exact Nat.le_of_eq rfl) (hb hby d2_60) (fun _ _ => ⟨rfl, e16, (by decide : 5 + 0 ≤ _), (by decide : 14 + 0 ≤ _)⟩)
  dsimp only [Pt.U, Pt.locs, Pt.cells, Pt.slots] at X17 l17 y17 z17 st17 hQ17
  subst l17 y17 z17
  obtain ⟨rfl, N17q, e17⟩ := hQ17
  have N := Fr.app N N17q
  refine own_st (T' := T17) (F' := (mkF m 63 #[.val (.ref a1), .val p1, .val p2, .val p3, .val (.int p4), .val (.int p5)] [(.ref w_el), (.ref a1)])) st17 ?_
  obtain ⟨T18, h18, X18, e18, W18, st18⟩ := putF X17 hx hZ hown (host := "") (Or.inl (hw _ (List.mem_of_getElem? (i := 107) rfl))) Via.refl e17 F_parts E_a1 (Or.inl (hw _ (List.mem_of_getElem? (i := 108) rfl))) (hw _ (List.mem_of_getElem? (i := 8) rfl)) (ty := (.object "java/util/List")) (by decide) rfl rfl (g := (mkF m 63 #[.val (.ref a1), .val p1, .val p2, .val p3, .val (.int p4), .val (.int p5)] [(.ref w_el), (.ref a1)])) rfl rfl (hb hby d2_63)
  have E_a1 := E_a1.wr W18
  have F_children := F_children.other W18 (Or.inr (slot_ne (Or.inr (hw _ (List.mem_of_getElem? (i := 49) rfl))) (Or.inl (hw _ (List.mem_of_getElem? (i := 108) rfl))) (by decide) (t := (.object "java/util/List")) (t' := (.object "java/util/List")) (by decide) (by decide)))
  have F_childrenView := F_childrenView.other W18 (Or.inr (slot_ne (Or.inr (hw _ (List.mem_of_getElem? (i := 94) rfl))) (Or.inl (hw _ (List.mem_of_getElem? (i := 108) rfl))) (by decide) (t := (.object "java/util/List")) (t' := (.object "java/util/List")) (by decide) (by decide)))
  have F_notes := F_notes.other W18 (Or.inr (slot_ne (Or.inr (hw _ (List.mem_of_getElem? (i := 96) rfl))) (Or.inl (hw _ (List.mem_of_getElem? (i := 108) rfl))) (by decide) (t := (.object "java/util/List")) (t' := (.object "java/util/List")) (by decide) (by decide)))
  have F_history := F_history.other W18 (Or.inr (slot_ne (Or.inr (hw _ (List.mem_of_getElem? (i := 98) rfl))) (Or.inl (hw _ (List.mem_of_getElem? (i := 108) rfl))) (by decide) (t := (.object "java/util/List")) (t' := (.object "java/util/List")) (by decide) (by decide)))
  have F_footnotes := F_footnotes.other W18 (Or.inr (slot_ne (Or.inr (hw _ (List.mem_of_getElem? (i := 100) rfl))) (Or.inl (hw _ (List.mem_of_getElem? (i := 108) rfl))) (by decide) (t := (.object "java/util/List")) (t' := (.object "java/util/List")) (by decide) (by decide)))
  have F_citations := F_citations.other W18 (Or.inr (slot_ne (Or.inr (hw _ (List.mem_of_getElem? (i := 110) rfl))) (Or.inl (hw _ (List.mem_of_getElem? (i := 108) rfl))) (by decide) (t := (.object "java/util/List")) (t' := (.object "java/util/List")) (by decide) (by decide)))
  have F_kind := F_kind.other W18 (Or.inr (slot_ne (Or.inr (hw _ (List.mem_of_getElem? (i := 112) rfl))) (Or.inl (hw _ (List.mem_of_getElem? (i := 108) rfl))) (by decide) (t := (.object "com/example/catchline/catchline/Kind")) (t' := (.object "java/util/List")) (by decide) (by decide)))
  have F_number := F_number.other W18 (Or.inr (slot_ne (Or.inr (hw _ (List.mem_of_getElem? (i := 114) rfl))) (Or.inl (hw _ (List.mem_of_getElem? (i := 108) rfl))) (by decide) (t := (.object "java/lang/String")) (t' := (.object "java/util/List")) (by decide) (by decide)))
  have F_title := F_title.other W18 (Or.inr (slot_ne (Or.inr (hw _ (List.mem_of_getElem? (i := 116) rfl))) (Or.inl (hw _ (List.mem_of_getElem? (i := 108) rfl))) (by decide) (t := (.object "java/lang/String")) (t' := (.object "java/util/List")) (by decide) (by decide)))
  have F_line := F_line.other W18 (Or.inr (slot_ne (Or.inr (hw _ (List.mem_of_getElem? (i := 118) rfl))) (Or.inl (hw _ (List.mem_of_getElem? (i := 108) rfl))) (by decide) (t := .int) (t' := (.object "java/util/List")) (by decide) (by decide)))
  have F_malformed := F_malformed.other W18 (Or.inr (slot_ne (Or.inr (hw _ (List.mem_of_getElem? (i := 120) rfl))) (Or.inl (hw _ (List.mem_of_getElem? (i := 108) rfl))) (by decide) (t := .boolean) (t' := (.object "java/util/List")) (by decide) (by decide)))
  have E_b2 := E_b2.wr W18
  have F_modCount_b2 := F_modCount_b2.other W18 (Or.inl (Ne.symm ne_a1_b2))
  have F_elementData_b2 := F_elementData_b2.other W18 (Or.inl (Ne.symm ne_a1_b2))
  have E_b8 := E_b8.wr W18
  have F_modCount_b8 := F_modCount_b8.other W18 (Or.inl (Ne.symm ne_a1_b8))
  have F_elementData_b8 := F_elementData_b8.other W18 (Or.inl (Ne.symm ne_a1_b8))
  have E_b11 := E_b11.wr W18
  have F_modCount_b11 := F_modCount_b11.other W18 (Or.inl (Ne.symm ne_a1_b11))
  have F_elementData_b11 := F_elementData_b11.other W18 (Or.inl (Ne.symm ne_a1_b11))
  have E_b14 := E_b14.wr W18
  have F_modCount_b14 := F_modCount_b14.other W18 (Or.inl (Ne.symm ne_a1_b14))
  have F_elementData_b14 := F_elementData_b14.other W18 (Or.inl (Ne.symm ne_a1_b14))
  have O := own_O_wr O W18 g_a1
  have N := Fr.snoc X18 N g_a1
  have KP := KP.wr W18 (Or.inl (List.mem_of_getElem? (i := 0) rfl))
  have F_parts := F_parts.same W18
  refine own_st (T' := T18) (F' := (mkF m 66 #[.val (.ref a1), .val p1, .val p2, .val p3, .val (.int p4), .val (.int p5)] [])) st18 ?_
  refine own_st (T' := T18) (F' := (mkF m 67 #[.val (.ref a1), .val p1, .val p2, .val p3, .val (.int p4), .val (.int p5)] [(.ref a1)])) (fun t k => XS.aloadN X18.here hx rfl (hb hby d2_66) rfl rfl k) ?_
  obtain ⟨T19, h19, X19, e19, E19, A19, D19, U19, st19⟩ := newO X18 hx hZ hown (hw _ (List.mem_of_getElem? (i := 24) rfl)) (hw _ (List.mem_of_getElem? (i := 25) rfl)) (hw _ (List.mem_of_getElem? (i := 26) rfl)) e18 (g := (mkF m 67 #[.val (.ref a1), .val p1, .val p2, .val p3, .val (.int p4), .val (.int p5)] [(.ref a1)])) rfl (hb hby d2_67) (by decide) (by decide)
  obtain ⟨b19, g19⟩ : ∃ z, z = h18.size := ⟨_, rfl⟩
  rw [← g19] at A19 D19 U19 st19
  have ne_a1_b19 : a1 ≠ b19 := Nat.ne_of_lt (Nat.lt_of_lt_of_le E_a1.lt (Nat.le_of_eq g19.symm))
  have ne_b2_b19 : b2 ≠ b19 := Nat.ne_of_lt (Nat.lt_of_lt_of_le E_b2.lt (Nat.le_of_eq g19.symm))
  have ne_b8_b19 : b8 ≠ b19 := Nat.ne_of_lt (Nat.lt_of_lt_of_le E_b8.lt (Nat.le_of_eq g19.symm))
  have ne_b11_b19 : b11 ≠ b19 := Nat.ne_of_lt (Nat.lt_of_lt_of_le E_b11.lt (Nat.le_of_eq g19.symm))
  have ne_b14_b19 : b14 ≠ b19 := Nat.ne_of_lt (Nat.lt_of_lt_of_le E_b14.lt (Nat.le_of_eq g19.symm))
  have g_b19 : Z.heap.size ≤ b19 := Nat.le_trans O.1 (Nat.le_of_eq g19.symm)
  have k_b19 : h0.size ≤ b19 := Nat.le_trans KP.1 (Nat.le_of_eq g19.symm)
  have E_a1 := E_a1.ext E19
  have F_children := F_children.ext E19
  have F_childrenView := F_childrenView.ext E19
  have F_notes := F_notes.ext E19
  have F_history := F_history.ext E19
  have F_footnotes := F_footnotes.ext E19
  have F_parts := F_parts.ext E19
  have F_citations := F_citations.ext E19
  have F_kind := F_kind.ext E19
  have F_number := F_number.ext E19
  have F_title := F_title.ext E19
  have F_line := F_line.ext E19
  have F_malformed := F_malformed.ext E19
  have E_b2 := E_b2.ext E19
  have F_modCount_b2 := F_modCount_b2.ext E19
  have F_elementData_b2 := F_elementData_b2.ext E19
  have E_b8 := E_b8.ext E19
  have F_modCount_b8 := F_modCount_b8.ext E19
  have F_elementData_b8 := F_elementData_b8.ext E19
  have E_b11 := E_b11.ext E19
  have F_modCount_b11 := F_modCount_b11.ext E19
  have F_elementData_b11 := F_elementData_b11.ext E19
  have E_b14 := E_b14.ext E19
  have F_modCount_b14 := F_modCount_b14.ext E19
  have F_elementData_b14 := F_elementData_b14.ext E19
  have O := own_ext_trans O E19
  have KP := KP.ext E19
  have E_b19 := A19
  have F_modCount_b19 : Fld Z h19 b19 "java/util/AbstractList" "modCount" "I" (.int (0 : Int32)) := D19 (Or.inl (hw _ (List.mem_of_getElem? (i := 44) rfl))) (ty := .int) (by decide)
  have F_elementData_b19 : Fld Z h19 b19 "java/util/ArrayList" "elementData" "[Ljava/lang/Object;" .null := D19 (Or.inl (hw _ (List.mem_of_getElem? (i := 47) rfl))) (ty := (.array (.object "java/lang/Object"))) (by decide)
  refine own_st (T' := T19) (F' := (mkF m 70 #[.val (.ref a1), .val p1, .val p2, .val p3, .val (.int p4), .val (.int p5)] [(.ref b19), (.ref a1)])) st19 ?_
  refine own_st (T' := T19) (F' := (mkF m 71 #[.val (.ref a1), .val p1, .val p2, .val p3, .val (.int p4), .val (.int p5)] [(.ref b19), (.ref b19), (.ref a1)])) (fun t k => XS.dup X19.here hx rfl (hb hby d2_70) rfl rfl k) ?_
  obtain ⟨v20, _, ⟨T20, L20, k20, n20⟩, -, X20, ⟨Lc20, hQ20, l20, y20, z20⟩, st20⟩ := X19.specialBack hx (y := (⟨"java/util/ArrayList", "<init>", "()V"⟩ : MethodName)) rfl hown (mvT hZ (hw _ (List.mem_of_getElem? (i := 27) rfl))) (mvT hZ (hw _ (List.mem_of_getElem? (i := 28) rfl))) (mvT hZ (hw _ (List.mem_of_getElem? (i := 29) rfl))) (by decide) (backOf (W := 2) (rm4 l Z a0 CX [] b19 (0 : Int32) .null rfl h19 O E_b19 g_b19 F_modCount_b19 F_elementData_b19) hZ (hw _ (List.mem_of_getElem? (i := 29) rfl)) (hw _ (List.mem_of_getElem? (i := 26) rfl)) (by decide) (by decide)) (g := (mkF m 71 #[.val (.ref a1), .val p1, .val p2, .val p3, .val (.int p4), .val (.int p5)] [(.ref b19), (.ref b19), (.ref a1)])) rfl (by rw [hml]; rfl) (Steps.refl _) (a := b19) (argsL := []) (rest := [(.ref b19), (.ref a1)]) (lenOf pd_0 rfl) rfl (by show 2 * 0 + _ ≤ _; exact Nat.le_of_eq rfl) (hb hby d2_71) (fun _ _ => ⟨rfl, e19, (by decide : 6 + 0 ≤ _), (by decide : 17 + 0 ≤ _)⟩)
  dsimp only [Pt.U, Pt.locs, Pt.cells, Pt.slots] at X20 l20 y20 z20 st20 hQ20
  subst l20 y20 z20
  obtain ⟨rfl, N20q, K20, F_modCount_b19, F_elementData_b19⟩ := hQ20
  have N := Fr.app N N20q
  have E_a1 := E_a1.keep K20
  have F_children := F_children.keep K20 (ninS ne_a1_b19 nin0)
  have F_childrenView := F_childrenView.keep K20 (ninS ne_a1_b19 nin0)
  have F_notes := F_notes.keep K20 (ninS ne_a1_b19 nin0)
  have F_history := F_history.keep K20 (ninS ne_a1_b19 nin0)
  have F_footnotes := F_footnotes.keep K20 (ninS ne_a1_b19 nin0)
  have F_parts := F_parts.keep K20 (ninS ne_a1_b19 nin0)
  have F_citations := F_citations.keep K20 (ninS ne_a1_b19 nin0)
  have F_kind := F_kind.keep K20 (ninS ne_a1_b19 nin0)
  have F_number := F_number.keep K20 (ninS ne_a1_b19 nin0)
  have F_title := F_title.keep K20 (ninS ne_a1_b19 nin0)
  have F_line := F_line.keep K20 (ninS ne_a1_b19 nin0)
  have F_malformed := F_malformed.keep K20 (ninS ne_a1_b19 nin0)
  have E_b2 := E_b2.keep K20
  have F_modCount_b2 := F_modCount_b2.keep K20 (ninS ne_b2_b19 nin0)
  have F_elementData_b2 := F_elementData_b2.keep K20 (ninS ne_b2_b19 nin0)
  have E_b8 := E_b8.keep K20
  have F_modCount_b8 := F_modCount_b8.keep K20 (ninS ne_b8_b19 nin0)
  have F_elementData_b8 := F_elementData_b8.keep K20 (ninS ne_b8_b19 nin0)
  have E_b11 := E_b11.keep K20
  have F_modCount_b11 := F_modCount_b11.keep K20 (ninS ne_b11_b19 nin0)
  have F_elementData_b11 := F_elementData_b11.keep K20 (ninS ne_b11_b19 nin0)
  have E_b14 := E_b14.keep K20
  have F_modCount_b14 := F_modCount_b14.keep K20 (ninS ne_b14_b19 nin0)
  have F_elementData_b14 := F_elementData_b14.keep K20 (ninS ne_b14_b19 nin0)
  have E_b19 := E_b19.keep K20
  have O := own_O_keep O K20 (allS g_b19 all0)
  have KP := KP.trans K20 (allS (Or.inr k_b19) all0)
  refine own_tr (T' := T20) (F' := (mkF m 74 #[.val (.ref a1), .val p1, .val p2, .val p3, .val (.int p4), .val (.int p5)] [(.ref b19), (.ref a1)])) st20 ?_
  obtain ⟨T21, h21, X21, e21, W21, st21⟩ := putF X20 hx hZ hown (host := "") (Or.inl (hw _ (List.mem_of_getElem? (i := 109) rfl))) Via.refl rfl F_citations E_a1 (Or.inr ⟨(hw _ (List.mem_of_getElem? (i := 110) rfl)), rfl, hnm⟩) (hw _ (List.mem_of_getElem? (i := 8) rfl)) (ty := (.object "java/util/List")) (by decide) rfl rfl (g := (mkF m 74 #[.val (.ref a1), .val p1, .val p2, .val p3, .val (.int p4), .val (.int p5)] [(.ref b19), (.ref a1)])) rfl rfl (hb hby d2_74)
  have E_a1 := E_a1.wr W21
  have F_children := F_children.other W21 (Or.inr (slot_ne (Or.inr (hw _ (List.mem_of_getElem? (i := 49) rfl))) (Or.inr (hw _ (List.mem_of_getElem? (i := 110) rfl))) (by decide) (t := (.object "java/util/List")) (t' := (.object "java/util/List")) (by decide) (by decide)))
  have F_childrenView := F_childrenView.other W21 (Or.inr (slot_ne (Or.inr (hw _ (List.mem_of_getElem? (i := 94) rfl))) (Or.inr (hw _ (List.mem_of_getElem? (i := 110) rfl))) (by decide) (t := (.object "java/util/List")) (t' := (.object "java/util/List")) (by decide) (by decide)))
  have F_notes := F_notes.other W21 (Or.inr (slot_ne (Or.inr (hw _ (List.mem_of_getElem? (i := 96) rfl))) (Or.inr (hw _ (List.mem_of_getElem? (i := 110) rfl))) (by decide) (t := (.object "java/util/List")) (t' := (.object "java/util/List")) (by decide) (by decide)))
  have F_history := F_history.other W21 (Or.inr (slot_ne (Or.inr (hw _ (List.mem_of_getElem? (i := 98) rfl))) (Or.inr (hw _ (List.mem_of_getElem? (i := 110) rfl))) (by decide) (t := (.object "java/util/List")) (t' := (.object "java/util/List")) (by decide) (by decide)))
  have F_footnotes := F_footnotes.other W21 (Or.inr (slot_ne (Or.inr (hw _ (List.mem_of_getElem? (i := 100) rfl))) (Or.inr (hw _ (List.mem_of_getElem? (i := 110) rfl))) (by decide) (t := (.object "java/util/List")) (t' := (.object "java/util/List")) (by decide) (by decide)))
  have F_parts := F_parts.other W21 (Or.inr (slot_ne (Or.inl (hw _ (List.mem_of_getElem? (i := 108) rfl))) (Or.inr (hw _ (List.mem_of_getElem? (i := 110) rfl))) (by decide) (t := (.object "java/util/List")) (t' := (.object "java/util/List")) (by decide) (by decide)))
  have F_kind := F_kind.other W21 (Or.inr (slot_ne (Or.inr (hw _ (List.mem_of_getElem? (i := 112) rfl))) (Or.inr (hw _ (List.mem_of_getElem? (i := 110) rfl))) (by decide) (t := (.object "com/example/catchline/catchline/Kind")) (t' := (.object "java/util/List")) (by decide) (by decide)))
  have F_number := F_number.other W21 (Or.inr (slot_ne (Or.inr (hw _ (List.mem_of_getElem? (i := 114) rfl))) (Or.inr (hw _ (List.mem_of_getElem? (i := 110) rfl))) (by decide) (t := (.object "java/lang/String")) (t' := (.object "java/util/List")) (by decide) (by decide)))
  have F_title := F_title.other W21 (Or.inr (slot_ne (Or.inr (hw _ (List.mem_of_getElem? (i := 116) rfl))) (Or.inr (hw _ (List.mem_of_getElem? (i := 110) rfl))) (by decide) (t := (.object "java/lang/String")) (t' := (.object "java/util/List")) (by decide) (by decide)))
  have F_line := F_line.other W21 (Or.inr (slot_ne (Or.inr (hw _ (List.mem_of_getElem? (i := 118) rfl))) (Or.inr (hw _ (List.mem_of_getElem? (i := 110) rfl))) (by decide) (t := .int) (t' := (.object "java/util/List")) (by decide) (by decide)))
  have F_malformed := F_malformed.other W21 (Or.inr (slot_ne (Or.inr (hw _ (List.mem_of_getElem? (i := 120) rfl))) (Or.inr (hw _ (List.mem_of_getElem? (i := 110) rfl))) (by decide) (t := .boolean) (t' := (.object "java/util/List")) (by decide) (by decide)))
  have E_b2 := E_b2.wr W21
  have F_modCount_b2 := F_modCount_b2.other W21 (Or.inl (Ne.symm ne_a1_b2))
  have F_elementData_b2 := F_elementData_b2.other W21 (Or.inl (Ne.symm ne_a1_b2))
  have E_b8 := E_b8.wr W21
  have F_modCount_b8 := F_modCount_b8.other W21 (Or.inl (Ne.symm ne_a1_b8))
  have F_elementData_b8 := F_elementData_b8.other W21 (Or.inl (Ne.symm ne_a1_b8))
  have E_b11 := E_b11.wr W21
  have F_modCount_b11 := F_modCount_b11.other W21 (Or.inl (Ne.symm ne_a1_b11))
  have F_elementData_b11 := F_elementData_b11.other W21 (Or.inl (Ne.symm ne_a1_b11))
  have E_b14 := E_b14.wr W21
  have F_modCount_b14 := F_modCount_b14.other W21 (Or.inl (Ne.symm ne_a1_b14))
  have F_elementData_b14 := F_elementData_b14.other W21 (Or.inl (Ne.symm ne_a1_b14))
  have E_b19 := E_b19.wr W21
  have F_modCount_b19 := F_modCount_b19.other W21 (Or.inl (Ne.symm ne_a1_b19))
  have F_elementData_b19 := F_elementData_b19.other W21 (Or.inl (Ne.symm ne_a1_b19))
  have O := own_O_wr O W21 g_a1
  have N := Fr.snoc X21 N g_a1
  have KP := KP.wr W21 (Or.inl (List.mem_of_getElem? (i := 0) rfl))
  have F_citations := F_citations.same W21
  refine own_st (T' := T21) (F' := (mkF m 77 #[.val (.ref a1), .val p1, .val p2, .val p3, .val (.int p4), .val (.int p5)] [])) st21 ?_
  refine own_st (T' := T21) (F' := (mkF m 78 #[.val (.ref a1), .val p1, .val p2, .val p3, .val (.int p4), .val (.int p5)] [(.ref a1)])) (fun t k => XS.aloadN X21.here hx rfl (hb hby d2_77) rfl rfl k) ?_
  refine own_st (T' := T21) (F' := (mkF m 79 #[.val (.ref a1), .val p1, .val p2, .val p3, .val (.int p4), .val (.int p5)] [p1, (.ref a1)])) (fun t k => XS.aloadN X21.here hx rfl (hb hby d2_78) rfl hp1 k) ?_
  obtain ⟨T22, h22, X22, e22, W22, st22⟩ := putF X21 hx hZ hown (host := "") (Or.inl (hw _ (List.mem_of_getElem? (i := 111) rfl))) Via.refl e21 F_kind E_a1 (Or.inr ⟨(hw _ (List.mem_of_getElem? (i := 112) rfl)), rfl, hnm⟩) (hw _ (List.mem_of_getElem? (i := 8) rfl)) (ty := (.object "com/example/catchline/catchline/Kind")) (by decide) (own_narrow hp1) (own_fits rfl hp1) (g := (mkF m 79 #[.val (.ref a1), .val p1, .val p2, .val p3, .val (.int p4), .val (.int p5)] [p1, (.ref a1)])) rfl rfl (hb hby d2_79)
  have E_a1 := E_a1.wr W22
  have F_children := F_children.other W22 (Or.inr (slot_ne (Or.inr (hw _ (List.mem_of_getElem? (i := 49) rfl))) (Or.inr (hw _ (List.mem_of_getElem? (i := 112) rfl))) (by decide) (t := (.object "java/util/List")) (t' := (.object "com/example/catchline/catchline/Kind")) (by decide) (by decide)))
  have F_childrenView := F_childrenView.other W22 (Or.inr (slot_ne (Or.inr (hw _ (List.mem_of_getElem? (i := 94) rfl))) (Or.inr (hw _ (List.mem_of_getElem? (i := 112) rfl))) (by decide) (t := (.object "java/util/List")) (t' := (.object "com/example/catchline/catchline/Kind")) (by decide) (by decide)))
  have F_notes := F_notes.other W22 (Or.inr (slot_ne (Or.inr (hw _ (List.mem_of_getElem? (i := 96) rfl))) (Or.inr (hw _ (List.mem_of_getElem? (i := 112) rfl))) (by decide) (t := (.object "java/util/List")) (t' := (.object "com/example/catchline/catchline/Kind")) (by decide) (by decide)))
  have F_history := F_history.other W22 (Or.inr (slot_ne (Or.inr (hw _ (List.mem_of_getElem? (i := 98) rfl))) (Or.inr (hw _ (List.mem_of_getElem? (i := 112) rfl))) (by decide) (t := (.object "java/util/List")) (t' := (.object "com/example/catchline/catchline/Kind")) (by decide) (by decide)))
  have F_footnotes := F_footnotes.other W22 (Or.inr (slot_ne (Or.inr (hw _ (List.mem_of_getElem? (i := 100) rfl))) (Or.inr (hw _ (List.mem_of_getElem? (i := 112) rfl))) (by decide) (t := (.object "java/util/List")) (t' := (.object "com/example/catchline/catchline/Kind")) (by decide) (by decide)))
  have F_parts := F_parts.other W22 (Or.inr (slot_ne (Or.inl (hw _ (List.mem_of_getElem? (i := 108) rfl))) (Or.inr (hw _ (List.mem_of_getElem? (i := 112) rfl))) (by decide) (t := (.object "java/util/List")) (t' := (.object "com/example/catchline/catchline/Kind")) (by decide) (by decide)))
  have F_citations := F_citations.other W22 (Or.inr (slot_ne (Or.inr (hw _ (List.mem_of_getElem? (i := 110) rfl))) (Or.inr (hw _ (List.mem_of_getElem? (i := 112) rfl))) (by decide) (t := (.object "java/util/List")) (t' := (.object "com/example/catchline/catchline/Kind")) (by decide) (by decide)))
  have F_number := F_number.other W22 (Or.inr (slot_ne (Or.inr (hw _ (List.mem_of_getElem? (i := 114) rfl))) (Or.inr (hw _ (List.mem_of_getElem? (i := 112) rfl))) (by decide) (t := (.object "java/lang/String")) (t' := (.object "com/example/catchline/catchline/Kind")) (by decide) (by decide)))
  have F_title := F_title.other W22 (Or.inr (slot_ne (Or.inr (hw _ (List.mem_of_getElem? (i := 116) rfl))) (Or.inr (hw _ (List.mem_of_getElem? (i := 112) rfl))) (by decide) (t := (.object "java/lang/String")) (t' := (.object "com/example/catchline/catchline/Kind")) (by decide) (by decide)))
  have F_line := F_line.other W22 (Or.inr (slot_ne (Or.inr (hw _ (List.mem_of_getElem? (i := 118) rfl))) (Or.inr (hw _ (List.mem_of_getElem? (i := 112) rfl))) (by decide) (t := .int) (t' := (.object "com/example/catchline/catchline/Kind")) (by decide) (by decide)))
  have F_malformed := F_malformed.other W22 (Or.inr (slot_ne (Or.inr (hw _ (List.mem_of_getElem? (i := 120) rfl))) (Or.inr (hw _ (List.mem_of_getElem? (i := 112) rfl))) (by decide) (t := .boolean) (t' := (.object "com/example/catchline/catchline/Kind")) (by decide) (by decide)))
  have E_b2 := E_b2.wr W22
  have F_modCount_b2 := F_modCount_b2.other W22 (Or.inl (Ne.symm ne_a1_b2))
  have F_elementData_b2 := F_elementData_b2.other W22 (Or.inl (Ne.symm ne_a1_b2))
  have E_b8 := E_b8.wr W22
  have F_modCount_b8 := F_modCount_b8.other W22 (Or.inl (Ne.symm ne_a1_b8))
  have F_elementData_b8 := F_elementData_b8.other W22 (Or.inl (Ne.symm ne_a1_b8))
  have E_b11 := E_b11.wr W22
  have F_modCount_b11 := F_modCount_b11.other W22 (Or.inl (Ne.symm ne_a1_b11))
  have F_elementData_b11 := F_elementData_b11.other W22 (Or.inl (Ne.symm ne_a1_b11))
  have E_b14 := E_b14.wr W22
  have F_modCount_b14 := F_modCount_b14.other W22 (Or.inl (Ne.symm ne_a1_b14))
  have F_elementData_b14 := F_elementData_b14.other W22 (Or.inl (Ne.symm ne_a1_b14))
  have E_b19 := E_b19.wr W22
  have F_modCount_b19 := F_modCount_b19.other W22 (Or.inl (Ne.symm ne_a1_b19))
  have F_elementData_b19 := F_elementData_b19.other W22 (Or.inl (Ne.symm ne_a1_b19))
  have O := own_O_wr O W22 g_a1
  have N := Fr.snoc X22 N g_a1
  have KP := KP.wr W22 (Or.inl (List.mem_of_getElem? (i := 0) rfl))
  have F_kind := F_kind.same W22
  refine own_st (T' := T22) (F' := (mkF m 82 #[.val (.ref a1), .val p1, .val p2, .val p3, .val (.int p4), .val (.int p5)] [])) st22 ?_
  refine own_st (T' := T22) (F' := (mkF m 83 #[.val (.ref a1), .val p1, .val p2, .val p3, .val (.int p4), .val (.int p5)] [(.ref a1)])) (fun t k => XS.aloadN X22.here hx rfl (hb hby d2_82) rfl rfl k) ?_
  refine own_st (T' := T22) (F' := (mkF m 84 #[.val (.ref a1), .val p1, .val p2, .val p3, .val (.int p4), .val (.int p5)] [p2, (.ref a1)])) (fun t k => XS.aloadN X22.here hx rfl (hb hby d2_83) rfl hp2 k) ?_
  obtain ⟨T23, h23, X23, e23, W23, st23⟩ := putF X22 hx hZ hown (host := "") (Or.inl (hw _ (List.mem_of_getElem? (i := 113) rfl))) Via.refl e22 F_number E_a1 (Or.inr ⟨(hw _ (List.mem_of_getElem? (i := 114) rfl)), rfl, hnm⟩) (hw _ (List.mem_of_getElem? (i := 8) rfl)) (ty := (.object "java/lang/String")) (by decide) (own_narrow hp2) (own_fits rfl hp2) (g := (mkF m 84 #[.val (.ref a1), .val p1, .val p2, .val p3, .val (.int p4), .val (.int p5)] [p2, (.ref a1)])) rfl rfl (hb hby d2_84)
  have E_a1 := E_a1.wr W23
  have F_children := F_children.other W23 (Or.inr (slot_ne (Or.inr (hw _ (List.mem_of_getElem? (i := 49) rfl))) (Or.inr (hw _ (List.mem_of_getElem? (i := 114) rfl))) (by decide) (t := (.object "java/util/List")) (t' := (.object "java/lang/String")) (by decide) (by decide)))
  have F_childrenView := F_childrenView.other W23 (Or.inr (slot_ne (Or.inr (hw _ (List.mem_of_getElem? (i := 94) rfl))) (Or.inr (hw _ (List.mem_of_getElem? (i := 114) rfl))) (by decide) (t := (.object "java/util/List")) (t' := (.object "java/lang/String")) (by decide) (by decide)))
  have F_notes := F_notes.other W23 (Or.inr (slot_ne (Or.inr (hw _ (List.mem_of_getElem? (i := 96) rfl))) (Or.inr (hw _ (List.mem_of_getElem? (i := 114) rfl))) (by decide) (t := (.object "java/util/List")) (t' := (.object "java/lang/String")) (by decide) (by decide)))
  have F_history := F_history.other W23 (Or.inr (slot_ne (Or.inr (hw _ (List.mem_of_getElem? (i := 98) rfl))) (Or.inr (hw _ (List.mem_of_getElem? (i := 114) rfl))) (by decide) (t := (.object "java/util/List")) (t' := (.object "java/lang/String")) (by decide) (by decide)))
  have F_footnotes := F_footnotes.other W23 (Or.inr (slot_ne (Or.inr (hw _ (List.mem_of_getElem? (i := 100) rfl))) (Or.inr (hw _ (List.mem_of_getElem? (i := 114) rfl))) (by decide) (t := (.object "java/util/List")) (t' := (.object "java/lang/String")) (by decide) (by decide)))
  have F_parts := F_parts.other W23 (Or.inr (slot_ne (Or.inl (hw _ (List.mem_of_getElem? (i := 108) rfl))) (Or.inr (hw _ (List.mem_of_getElem? (i := 114) rfl))) (by decide) (t := (.object "java/util/List")) (t' := (.object "java/lang/String")) (by decide) (by decide)))
  have F_citations := F_citations.other W23 (Or.inr (slot_ne (Or.inr (hw _ (List.mem_of_getElem? (i := 110) rfl))) (Or.inr (hw _ (List.mem_of_getElem? (i := 114) rfl))) (by decide) (t := (.object "java/util/List")) (t' := (.object "java/lang/String")) (by decide) (by decide)))
  have F_kind := F_kind.other W23 (Or.inr (slot_ne (Or.inr (hw _ (List.mem_of_getElem? (i := 112) rfl))) (Or.inr (hw _ (List.mem_of_getElem? (i := 114) rfl))) (by decide) (t := (.object "com/example/catchline/catchline/Kind")) (t' := (.object "java/lang/String")) (by decide) (by decide)))
  have F_title := F_title.other W23 (Or.inr (slot_ne (Or.inr (hw _ (List.mem_of_getElem? (i := 116) rfl))) (Or.inr (hw _ (List.mem_of_getElem? (i := 114) rfl))) (by decide) (t := (.object "java/lang/String")) (t' := (.object "java/lang/String")) (by decide) (by decide)))
  have F_line := F_line.other W23 (Or.inr (slot_ne (Or.inr (hw _ (List.mem_of_getElem? (i := 118) rfl))) (Or.inr (hw _ (List.mem_of_getElem? (i := 114) rfl))) (by decide) (t := .int) (t' := (.object "java/lang/String")) (by decide) (by decide)))
  have F_malformed := F_malformed.other W23 (Or.inr (slot_ne (Or.inr (hw _ (List.mem_of_getElem? (i := 120) rfl))) (Or.inr (hw _ (List.mem_of_getElem? (i := 114) rfl))) (by decide) (t := .boolean) (t' := (.object "java/lang/String")) (by decide) (by decide)))
  have E_b2 := E_b2.wr W23
  have F_modCount_b2 := F_modCount_b2.other W23 (Or.inl (Ne.symm ne_a1_b2))
  have F_elementData_b2 := F_elementData_b2.other W23 (Or.inl (Ne.symm ne_a1_b2))
  have E_b8 := E_b8.wr W23
  have F_modCount_b8 := F_modCount_b8.other W23 (Or.inl (Ne.symm ne_a1_b8))
  have F_elementData_b8 := F_elementData_b8.other W23 (Or.inl (Ne.symm ne_a1_b8))
  have E_b11 := E_b11.wr W23
  have F_modCount_b11 := F_modCount_b11.other W23 (Or.inl (Ne.symm ne_a1_b11))
  have F_elementData_b11 := F_elementData_b11.other W23 (Or.inl (Ne.symm ne_a1_b11))
  have E_b14 := E_b14.wr W23
  have F_modCount_b14 := F_modCount_b14.other W23 (Or.inl (Ne.symm ne_a1_b14))
  have F_elementData_b14 := F_elementData_b14.other W23 (Or.inl (Ne.symm ne_a1_b14))
  have E_b19 := E_b19.wr W23
  have F_modCount_b19 := F_modCount_b19.other W23 (Or.inl (Ne.symm ne_a1_b19))
  have F_elementData_b19 := F_elementData_b19.other W23 (Or.inl (Ne.symm ne_a1_b19))
  have O := own_O_wr O W23 g_a1
  have N := Fr.snoc X23 N g_a1
  have KP := KP.wr W23 (Or.inl (List.mem_of_getElem? (i := 0) rfl))
  have F_number := F_number.same W23
  refine own_st (T' := T23) (F' := (mkF m 87 #[.val (.ref a1), .val p1, .val p2, .val p3, .val (.int p4), .val (.int p5)] [])) st23 ?_
  refine own_st (T' := T23) (F' := (mkF m 88 #[.val (.ref a1), .val p1, .val p2, .val p3, .val (.int p4), .val (.int p5)] [(.ref a1)])) (fun t k => XS.aloadN X23.here hx rfl (hb hby d2_87) rfl rfl k) ?_
  refine own_st (T' := T23) (F' := (mkF m 89 #[.val (.ref a1), .val p1, .val p2, .val p3, .val (.int p4), .val (.int p5)] [p3, (.ref a1)])) (fun t k => XS.aloadN X23.here hx rfl (hb hby d2_88) rfl hp3 k) ?_
  obtain ⟨T24, h24, X24, e24, W24, st24⟩ := putF X23 hx hZ hown (host := "") (Or.inl (hw _ (List.mem_of_getElem? (i := 115) rfl))) Via.refl e23 F_title E_a1 (Or.inr ⟨(hw _ (List.mem_of_getElem? (i := 116) rfl)), rfl, hnm⟩) (hw _ (List.mem_of_getElem? (i := 8) rfl)) (ty := (.object "java/lang/String")) (by decide) (own_narrow hp3) (own_fits rfl hp3) (g := (mkF m 89 #[.val (.ref a1), .val p1, .val p2, .val p3, .val (.int p4), .val (.int p5)] [p3, (.ref a1)])) rfl rfl (hb hby d2_89)
  have E_a1 := E_a1.wr W24
  have F_children := F_children.other W24 (Or.inr (slot_ne (Or.inr (hw _ (List.mem_of_getElem? (i := 49) rfl))) (Or.inr (hw _ (List.mem_of_getElem? (i := 116) rfl))) (by decide) (t := (.object "java/util/List")) (t' := (.object "java/lang/String")) (by decide) (by decide)))
  have F_childrenView := F_childrenView.other W24 (Or.inr (slot_ne (Or.inr (hw _ (List.mem_of_getElem? (i := 94) rfl))) (Or.inr (hw _ (List.mem_of_getElem? (i := 116) rfl))) (by decide) (t := (.object "java/util/List")) (t' := (.object "java/lang/String")) (by decide) (by decide)))
  have F_notes := F_notes.other W24 (Or.inr (slot_ne (Or.inr (hw _ (List.mem_of_getElem? (i := 96) rfl))) (Or.inr (hw _ (List.mem_of_getElem? (i := 116) rfl))) (by decide) (t := (.object "java/util/List")) (t' := (.object "java/lang/String")) (by decide) (by decide)))
  have F_history := F_history.other W24 (Or.inr (slot_ne (Or.inr (hw _ (List.mem_of_getElem? (i := 98) rfl))) (Or.inr (hw _ (List.mem_of_getElem? (i := 116) rfl))) (by decide) (t := (.object "java/util/List")) (t' := (.object "java/lang/String")) (by decide) (by decide)))
  have F_footnotes := F_footnotes.other W24 (Or.inr (slot_ne (Or.inr (hw _ (List.mem_of_getElem? (i := 100) rfl))) (Or.inr (hw _ (List.mem_of_getElem? (i := 116) rfl))) (by decide) (t := (.object "java/util/List")) (t' := (.object "java/lang/String")) (by decide) (by decide)))
  have F_parts := F_parts.other W24 (Or.inr (slot_ne (Or.inl (hw _ (List.mem_of_getElem? (i := 108) rfl))) (Or.inr (hw _ (List.mem_of_getElem? (i := 116) rfl))) (by decide) (t := (.object "java/util/List")) (t' := (.object "java/lang/String")) (by decide) (by decide)))
  have F_citations := F_citations.other W24 (Or.inr (slot_ne (Or.inr (hw _ (List.mem_of_getElem? (i := 110) rfl))) (Or.inr (hw _ (List.mem_of_getElem? (i := 116) rfl))) (by decide) (t := (.object "java/util/List")) (t' := (.object "java/lang/String")) (by decide) (by decide)))
  have F_kind := F_kind.other W24 (Or.inr (slot_ne (Or.inr (hw _ (List.mem_of_getElem? (i := 112) rfl))) (Or.inr (hw _ (List.mem_of_getElem? (i := 116) rfl))) (by decide) (t := (.object "com/example/catchline/catchline/Kind")) (t' := (.object "java/lang/String")) (by decide) (by decide)))
  have F_number := F_number.other W24 (Or.inr (slot_ne (Or.inr (hw _ (List.mem_of_getElem? (i := 114) rfl))) (Or.inr (hw _ (List.mem_of_getElem? (i := 116) rfl))) (by decide) (t := (.object "java/lang/String")) (t' := (.object "java/lang/String")) (by decide) (by decide)))
  have F_line := F_line.other W24 (Or.inr (slot_ne (Or.inr (hw _ (List.mem_of_getElem? (i := 118) rfl))) (Or.inr (hw _ (List.mem_of_getElem? (i := 116) rfl))) (by decide) (t := .int) (t' := (.object "java/lang/String")) (by decide) (by decide)))
  have F_malformed := F_malformed.other W24 (Or.inr (slot_ne (Or.inr (hw _ (List.mem_of_getElem? (i := 120) rfl))) (Or.inr (hw _ (List.mem_of_getElem? (i := 116) rfl))) (by decide) (t := .boolean) (t' := (.object "java/lang/String")) (by decide) (by decide)))
  have E_b2 := E_b2.wr W24
  have F_modCount_b2 := F_modCount_b2.other W24 (Or.inl (Ne.symm ne_a1_b2))
  have F_elementData_b2 := F_elementData_b2.other W24 (Or.inl (Ne.symm ne_a1_b2))
  have E_b8 := E_b8.wr W24
  have F_modCount_b8 := F_modCount_b8.other W24 (Or.inl (Ne.symm ne_a1_b8))
  have F_elementData_b8 := F_elementData_b8.other W24 (Or.inl (Ne.symm ne_a1_b8))
  have E_b11 := E_b11.wr W24
  have F_modCount_b11 := F_modCount_b11.other W24 (Or.inl (Ne.symm ne_a1_b11))
  have F_elementData_b11 := F_elementData_b11.other W24 (Or.inl (Ne.symm ne_a1_b11))
  have E_b14 := E_b14.wr W24
  have F_modCount_b14 := F_modCount_b14.other W24 (Or.inl (Ne.symm ne_a1_b14))
  have F_elementData_b14 := F_elementData_b14.other W24 (Or.inl (Ne.symm ne_a1_b14))
  have E_b19 := E_b19.wr W24
  have F_modCount_b19 := F_modCount_b19.other W24 (Or.inl (Ne.symm ne_a1_b19))
  have F_elementData_b19 := F_elementData_b19.other W24 (Or.inl (Ne.symm ne_a1_b19))
  have O := own_O_wr O W24 g_a1
  have N := Fr.snoc X24 N g_a1
  have KP := KP.wr W24 (Or.inl (List.mem_of_getElem? (i := 0) rfl))
  have F_title := F_title.same W24
  refine own_st (T' := T24) (F' := (mkF m 92 #[.val (.ref a1), .val p1, .val p2, .val p3, .val (.int p4), .val (.int p5)] [])) st24 ?_
  refine own_st (T' := T24) (F' := (mkF m 93 #[.val (.ref a1), .val p1, .val p2, .val p3, .val (.int p4), .val (.int p5)] [(.ref a1)])) (fun t k => XS.aloadN X24.here hx rfl (hb hby d2_92) rfl rfl k) ?_
  refine own_st (T' := T24) (F' := (mkF m 95 #[.val (.ref a1), .val p1, .val p2, .val p3, .val (.int p4), .val (.int p5)] [(.int p4), (.ref a1)])) (fun t k => XS.iload X24.here hx rfl (hb hby d2_93) rfl k) ?_
  obtain ⟨T25, h25, X25, e25, W25, st25⟩ := putF X24 hx hZ hown (host := "") (Or.inl (hw _ (List.mem_of_getElem? (i := 117) rfl))) Via.refl e24 F_line E_a1 (Or.inr ⟨(hw _ (List.mem_of_getElem? (i := 118) rfl)), rfl, hnm⟩) (hw _ (List.mem_of_getElem? (i := 8) rfl)) (ty := .int) (by decide) rfl rfl (g := (mkF m 95 #[.val (.ref a1), .val p1, .val p2, .val p3, .val (.int p4), .val (.int p5)] [(.int p4), (.ref a1)])) rfl rfl (hb hby d2_95)
  have E_a1 := E_a1.wr W25
  have F_children := F_children.other W25 (Or.inr (slot_ne (Or.inr (hw _ (List.mem_of_getElem? (i := 49) rfl))) (Or.inr (hw _ (List.mem_of_getElem? (i := 118) rfl))) (by decide) (t := (.object "java/util/List")) (t' := .int) (by decide) (by decide)))
  have F_childrenView := F_childrenView.other W25 (Or.inr (slot_ne (Or.inr (hw _ (List.mem_of_getElem? (i := 94) rfl))) (Or.inr (hw _ (List.mem_of_getElem? (i := 118) rfl))) (by decide) (t := (.object "java/util/List")) (t' := .int) (by decide) (by decide)))
  have F_notes := F_notes.other W25 (Or.inr (slot_ne (Or.inr (hw _ (List.mem_of_getElem? (i := 96) rfl))) (Or.inr (hw _ (List.mem_of_getElem? (i := 118) rfl))) (by decide) (t := (.object "java/util/List")) (t' := .int) (by decide) (by decide)))
  have F_history := F_history.other W25 (Or.inr (slot_ne (Or.inr (hw _ (List.mem_of_getElem? (i := 98) rfl))) (Or.inr (hw _ (List.mem_of_getElem? (i := 118) rfl))) (by decide) (t := (.object "java/util/List")) (t' := .int) (by decide) (by decide)))
  have F_footnotes := F_footnotes.other W25 (Or.inr (slot_ne (Or.inr (hw _ (List.mem_of_getElem? (i := 100) rfl))) (Or.inr (hw _ (List.mem_of_getElem? (i := 118) rfl))) (by decide) (t := (.object "java/util/List")) (t' := .int) (by decide) (by decide)))
  have F_parts := F_parts.other W25 (Or.inr (slot_ne (Or.inl (hw _ (List.mem_of_getElem? (i := 108) rfl))) (Or.inr (hw _ (List.mem_of_getElem? (i := 118) rfl))) (by decide) (t := (.object "java/util/List")) (t' := .int) (by decide) (by decide)))
  have F_citations := F_citations.other W25 (Or.inr (slot_ne (Or.inr (hw _ (List.mem_of_getElem? (i := 110) rfl))) (Or.inr (hw _ (List.mem_of_getElem? (i := 118) rfl))) (by decide) (t := (.object "java/util/List")) (t' := .int) (by decide) (by decide)))
  have F_kind := F_kind.other W25 (Or.inr (slot_ne (Or.inr (hw _ (List.mem_of_getElem? (i := 112) rfl))) (Or.inr (hw _ (List.mem_of_getElem? (i := 118) rfl))) (by decide) (t := (.object "com/example/catchline/catchline/Kind")) (t' := .int) (by decide) (by decide)))
  have F_number := F_number.other W25 (Or.inr (slot_ne (Or.inr (hw _ (List.mem_of_getElem? (i := 114) rfl))) (Or.inr (hw _ (List.mem_of_getElem? (i := 118) rfl))) (by decide) (t := (.object "java/lang/String")) (t' := .int) (by decide) (by decide)))
  have F_title := F_title.other W25 (Or.inr (slot_ne (Or.inr (hw _ (List.mem_of_getElem? (i := 116) rfl))) (Or.inr (hw _ (List.mem_of_getElem? (i := 118) rfl))) (by decide) (t := (.object "java/lang/String")) (t' := .int) (by decide) (by decide)))
  have F_malformed := F_malformed.other W25 (Or.inr (slot_ne (Or.inr (hw _ (List.mem_of_getElem? (i := 120) rfl))) (Or.inr (hw _ (List.mem_of_getElem? (i := 118) rfl))) (by decide) (t := .boolean) (t' := .int) (by decide) (by decide)))
  have E_b2 := E_b2.wr W25
  have F_modCount_b2 := F_modCount_b2.other W25 (Or.inl (Ne.symm ne_a1_b2))
  have F_elementData_b2 := F_elementData_b2.other W25 (Or.inl (Ne.symm ne_a1_b2))
  have E_b8 := E_b8.wr W25
  have F_modCount_b8 := F_modCount_b8.other W25 (Or.inl (Ne.symm ne_a1_b8))
  have F_elementData_b8 := F_elementData_b8.other W25 (Or.inl (Ne.symm ne_a1_b8))
  have E_b11 := E_b11.wr W25
  have F_modCount_b11 := F_modCount_b11.other W25 (Or.inl (Ne.symm ne_a1_b11))
  have F_elementData_b11 := F_elementData_b11.other W25 (Or.inl (Ne.symm ne_a1_b11))
  have E_b14 := E_b14.wr W25
  have F_modCount_b14 := F_modCount_b14.other W25 (Or.inl (Ne.symm ne_a1_b14))
  have F_elementData_b14 := F_elementData_b14.other W25 (Or.inl (Ne.symm ne_a1_b14))
  have E_b19 := E_b19.wr W25
  have F_modCount_b19 := F_modCount_b19.other W25 (Or.inl (Ne.symm ne_a1_b19))
  have F_elementData_b19 := F_elementData_b19.other W25 (Or.inl (Ne.symm ne_a1_b19))
  have O := own_O_wr O W25 g_a1
  have N := Fr.snoc X25 N g_a1
  have KP := KP.wr W25 (Or.inl (List.mem_of_getElem? (i := 0) rfl))
  have F_line := F_line.same W25
  refine own_st (T' := T25) (F' := (mkF m 98 #[.val (.ref a1), .val p1, .val p2, .val p3, .val (.int p4), .val (.int p5)] [])) st25 ?_
  refine own_st (T' := T25) (F' := (mkF m 99 #[.val (.ref a1), .val p1, .val p2, .val p3, .val (.int p4), .val (.int p5)] [(.ref a1)])) (fun t k => XS.aloadN X25.here hx rfl (hb hby d2_98) rfl rfl k) ?_
  refine own_st (T' := T25) (F' := (mkF m 101 #[.val (.ref a1), .val p1, .val p2, .val p3, .val (.int p4), .val (.int p5)] [(.int p5), (.ref a1)])) (fun t k => XS.iload X25.here hx rfl (hb hby d2_99) rfl k) ?_
  obtain ⟨T26, h26, X26, e26, W26, st26⟩ := putFN X25 hx hZ hown (hw _ (List.mem_of_getElem? (i := 119) rfl)) Via.refl e25 F_malformed E_a1 (Or.inr ⟨(hw _ (List.mem_of_getElem? (i := 120) rfl)), rfl, hnm⟩) (hw _ (List.mem_of_getElem? (i := 8) rfl)) (ty := .boolean) (v' := (.int p5)) (by decide) (own_nb hp5) (own_fb hp5) (g := (mkF m 101 #[.val (.ref a1), .val p1, .val p2, .val p3, .val (.int p4), .val (.int p5)] [(.int p5), (.ref a1)])) rfl rfl (hb hby d2_101)
  have E_a1 := E_a1.wr W26
  have F_children := F_children.other W26 (Or.inr (slot_ne (Or.inr (hw _ (List.mem_of_getElem? (i := 49) rfl))) (Or.inr (hw _ (List.mem_of_getElem? (i := 120) rfl))) (by decide) (t := (.object "java/util/List")) (t' := .boolean) (by decide) (by decide)))
  have F_childrenView := F_childrenView.other W26 (Or.inr (slot_ne (Or.inr (hw _ (List.mem_of_getElem? (i := 94) rfl))) (Or.inr (hw _ (List.mem_of_getElem? (i := 120) rfl))) (by decide) (t := (.object "java/util/List")) (t' := .boolean) (by decide) (by decide)))
  have F_notes := F_notes.other W26 (Or.inr (slot_ne (Or.inr (hw _ (List.mem_of_getElem? (i := 96) rfl))) (Or.inr (hw _ (List.mem_of_getElem? (i := 120) rfl))) (by decide) (t := (.object "java/util/List")) (t' := .boolean) (by decide) (by decide)))
  have F_history := F_history.other W26 (Or.inr (slot_ne (Or.inr (hw _ (List.mem_of_getElem? (i := 98) rfl))) (Or.inr (hw _ (List.mem_of_getElem? (i := 120) rfl))) (by decide) (t := (.object "java/util/List")) (t' := .boolean) (by decide) (by decide)))
  have F_footnotes := F_footnotes.other W26 (Or.inr (slot_ne (Or.inr (hw _ (List.mem_of_getElem? (i := 100) rfl))) (Or.inr (hw _ (List.mem_of_getElem? (i := 120) rfl))) (by decide) (t := (.object "java/util/List")) (t' := .boolean) (by decide) (by decide)))
  have F_parts := F_parts.other W26 (Or.inr (slot_ne (Or.inl (hw _ (List.mem_of_getElem? (i := 108) rfl))) (Or.inr (hw _ (List.mem_of_getElem? (i := 120) rfl))) (by decide) (t := (.object "java/util/List")) (t' := .boolean) (by decide) (by decide)))
  have F_citations := F_citations.other W26 (Or.inr (slot_ne (Or.inr (hw _ (List.mem_of_getElem? (i := 110) rfl))) (Or.inr (hw _ (List.mem_of_getElem? (i := 120) rfl))) (by decide) (t := (.object "java/util/List")) (t' := .boolean) (by decide) (by decide)))
  have F_kind := F_kind.other W26 (Or.inr (slot_ne (Or.inr (hw _ (List.mem_of_getElem? (i := 112) rfl))) (Or.inr (hw _ (List.mem_of_getElem? (i := 120) rfl))) (by decide) (t := (.object "com/example/catchline/catchline/Kind")) (t' := .boolean) (by decide) (by decide)))
  have F_number := F_number.other W26 (Or.inr (slot_ne (Or.inr (hw _ (List.mem_of_getElem? (i := 114) rfl))) (Or.inr (hw _ (List.mem_of_getElem? (i := 120) rfl))) (by decide) (t := (.object "java/lang/String")) (t' := .boolean) (by decide) (by decide)))
  have F_title := F_title.other W26 (Or.inr (slot_ne (Or.inr (hw _ (List.mem_of_getElem? (i := 116) rfl))) (Or.inr (hw _ (List.mem_of_getElem? (i := 120) rfl))) (by decide) (t := (.object "java/lang/String")) (t' := .boolean) (by decide) (by decide)))
  have F_line := F_line.other W26 (Or.inr (slot_ne (Or.inr (hw _ (List.mem_of_getElem? (i := 118) rfl))) (Or.inr (hw _ (List.mem_of_getElem? (i := 120) rfl))) (by decide) (t := .int) (t' := .boolean) (by decide) (by decide)))
  have E_b2 := E_b2.wr W26
  have F_modCount_b2 := F_modCount_b2.other W26 (Or.inl (Ne.symm ne_a1_b2))
  have F_elementData_b2 := F_elementData_b2.other W26 (Or.inl (Ne.symm ne_a1_b2))
  have E_b8 := E_b8.wr W26
  have F_modCount_b8 := F_modCount_b8.other W26 (Or.inl (Ne.symm ne_a1_b8))
  have F_elementData_b8 := F_elementData_b8.other W26 (Or.inl (Ne.symm ne_a1_b8))
  have E_b11 := E_b11.wr W26
  have F_modCount_b11 := F_modCount_b11.other W26 (Or.inl (Ne.symm ne_a1_b11))
  have F_elementData_b11 := F_elementData_b11.other W26 (Or.inl (Ne.symm ne_a1_b11))
  have E_b14 := E_b14.wr W26
  have F_modCount_b14 := F_modCount_b14.other W26 (Or.inl (Ne.symm ne_a1_b14))
  have F_elementData_b14 := F_elementData_b14.other W26 (Or.inl (Ne.symm ne_a1_b14))
  have E_b19 := E_b19.wr W26
  have F_modCount_b19 := F_modCount_b19.other W26 (Or.inl (Ne.symm ne_a1_b19))
  have F_elementData_b19 := F_elementData_b19.other W26 (Or.inl (Ne.symm ne_a1_b19))
  have O := own_O_wr O W26 g_a1
  have N := Fr.snoc X26 N g_a1
  have KP := KP.wr W26 (Or.inl (List.mem_of_getElem? (i := 0) rfl))
  have F_malformed := F_malformed.same W26
  refine own_st (T' := T26) (F' := (mkF m 104 #[.val (.ref a1), .val p1, .val p2, .val p3, .val (.int p4), .val (.int p5)] [])) st26 ?_
  exact own_retV X26 hx Bd.returns (hb hby d2_104) hlk (by show Q_rm2 Z a1 p1 hp1 p2 hp2 p3 hp3 p4 p5 hp5 u_children hu_children u_childrenView hu_childrenView u_notes hu_notes u_history hu_history u_footnotes hu_footnotes u_parts hu_parts u_citations hu_citations u_kind hu_kind u_number hu_number u_title hu_title u_line u_malformed hu_malformed h0 _ T26.heap _; rw [e26]; exact ⟨rfl, N, KP, F_kind, F_line⟩) (by decide) (by decide)
theorem d12_0 : decode prog_43_method_16_code 0 = .ok (.aload_n 0, 1) := by decide +kernel
theorem d12_1 : decode prog_43_method_16_code 1 = .ok (.getfield 46, 3) := by decide +kernel
theorem d12_4 : decode prog_43_method_16_code 4 = .ok (.getstatic 75, 3) := by decide +kernel
theorem d12_7 : decode prog_43_method_16_code 7 = .ok (.if_acmp .ne 10, 3) := by decide +kernel
theorem d12_10 : decode prog_43_method_16_code 10 = .ok (.aload_n 0, 1) := by decide +kernel
theorem d12_11 : decode prog_43_method_16_code 11 = .ok (.getfield 57, 3) := by decide +kernel
theorem d12_14 : decode prog_43_method_16_code 14 = .ok (.goto 9, 3) := by decide +kernel
theorem d12_17 : decode prog_43_method_16_code 17 = .ok (.aload_n 0, 1) := by decide +kernel
theorem d12_18 : decode prog_43_method_16_code 18 = .ok (.getfield 57, 3) := by decide +kernel
theorem d12_21 : decode prog_43_method_16_code 21 = .ok (.iconst 1, 1) := by decide +kernel
theorem d12_22 : decode prog_43_method_16_code 22 = .ok (.iadd, 1) := by decide +kernel
theorem d12_23 : decode prog_43_method_16_code 23 = .ok (.ireturn, 1) := by decide +kernel
set_option maxRecDepth 65536 in
set_option maxHeartbeats 40000000 in
theorem rmT_F (l : Launch) (Z : State) (a0 : Array Value) {w_FRONT : Addr} {w_PART : Addr} {w_DIVISION : Addr} {w_BACK : Addr} {w_CHAPTER : Addr} {w_ARTICLE : Addr} {w_SECTION : Addr} {w_RESERVED : Addr} {w_dc : Addr} {w_el : Addr} {mA : Addr} {mL : Addr} {mR : Addr} (CX : Ctx Z a0 w_FRONT w_PART w_DIVISION w_BACK w_CHAPTER w_ARTICLE w_SECTION w_RESERVED w_dc w_el mA mL mR) (ws : List Jvm.Cond) (a1 : Addr) (q : Int32) (h0 : Heap) (O : Ext Z.heap h0) (FK1 : Fld Z h0 a1 "com/example/catchline/catchline/Node" "kind" "Lcom/example/catchline/catchline/Kind;" (.ref w_FRONT)) (FL1 : Fld Z h0 a1 "com/example/catchline/catchline/Node" "line" "I" (.int q)) :
    MetFree l (⟨"com/example/catchline/catchline/Node", "textStart", "()I"⟩ : MethodName) (head1 (Jvm.Cond.code (⟨"com/example/catchline/catchline/Node", "textStart", "()I"⟩ : MethodName) prog_43_method_16_code 1 (some .int) :: ws) ({ frames := 0, cells := 0, slots := 0, locals := 0 } : Room)) (fun a U => a = #[(.ref a1)] ∧ Z.Warmed39 U.vm ∧ U.heap = h0) (fun _ _ _ _ _ => True) (fun _ U o U' => ∃ v L, o = .returned v ∧ QP Z (.int q) h0 v U'.heap L ∧ FrameEnd U o U' L ({ frames := 0, cells := 0, slots := 0, locals := 0 } : Room).cells ({ frames := 0, cells := 0, slots := 0, locals := 0 } : Room).slots) := by
  refine MetFree.of_bodySF (plainFor_of_name pn_9) hisR ?_
  intro p e s m args below meth c s₁ Bd hml0 hP hK
  obtain ⟨rfl, hZ, hh⟩ := hP
  have CX0 := CX
  obtain ⟨hw, S_FRONT, E_FRONT, S_PART, E_PART, S_DIVISION, E_DIVISION, S_BACK, E_BACK, S_CHAPTER, E_CHAPTER, S_ARTICLE, E_ARTICLE, S_SECTION, E_SECTION, S_RESERVED, E_RESERVED, O_PART, O_FRONT, O_DIVISION, O_BACK, O_CHAPTER, O_ARTICLE, O_SECTION, O_RESERVED, S_dc, S_el, MmA, MmL, MmR, -⟩ := CX0
  have hx := Bd.exec
  have hby := Bd.bytes
  have hml : c.maxLocals = 1 := hml0
  have hown : s.vm.findClass "com/example/catchline/catchline/Node" = some m.cls := findClass_of_methodNamed Bd.named
  have hnm := (name_of_methodNamed Bd.named Bd.method).1
  have hlk : meth.locks = false := BodyLoose.notSynchronized Bd
  have X0 : Stand p l e ({ frames := 0, cells := 0, slots := 0, locals := 0 } : Room) s m #[(.ref a1)] below meth c s₁ [] 0 0 := Stand.of_body Bd
  have e0 : s₁.heap = h0 := by rw [← hh, Bd.state]; rfl
  have N := Fr.nil Z.heap.size
  show own_Done p.tables e below (own_R (QP Z (.int q) h0) s 0 0) s₁ (entryFrame m #[(.ref a1)] 1)
  refine own_st (T' := s₁) (F' := (mkF m 0 #[.val (.ref a1)] [])) (fun t k => castTop (by first | rfl | (simp [entryFrame, mkF, argsToLocals, Value.category]; done)) k) ?_
  refine own_st (T' := s₁) (F' := (mkF m 1 #[.val (.ref a1)] [(.ref a1)])) (fun t k => XS.aloadN X0.here hx rfl (hb hby d12_0) rfl rfl k) ?_
  obtain ⟨T1, X1, e1, st1⟩ := getF X0 hx hZ hown (host := "") (Or.inl (hw _ (List.mem_of_getElem? (i := 111) rfl))) Via.refl e0 FK1 (g := (mkF m 1 #[.val (.ref a1)] [(.ref a1)])) rfl rfl (hb hby d12_1)
  refine own_st (T' := T1) (F' := (mkF m 4 #[.val (.ref a1)] [(.ref w_FRONT)])) st1 ?_
  obtain ⟨T2, X2, e2, st2⟩ := getS2 X1 hx hZ hown (host := "") (Or.inl (hw _ (List.mem_of_getElem? (i := 126) rfl))) Via.refl e1 (S_FRONT.ext O) (g := (mkF m 4 #[.val (.ref a1)] [(.ref w_FRONT)])) rfl (hb hby d12_4)
  refine own_st (T' := T2) (F' := (mkF m 7 #[.val (.ref a1)] [(.ref w_FRONT), (.ref w_FRONT)])) st2 ?_
  refine own_st (T' := T2) (F' := (mkF m 10 #[.val (.ref a1)] [])) (fun t k => Jvm.RoadKit.acmp (g := (mkF m 7 #[.val (.ref a1)] [(.ref w_FRONT), (.ref w_FRONT)])) X2 hx rfl rfl rfl (pc0 := 7) (pc' := 10) (same := true) rfl (hb hby d12_7) rfl (decide_eq_true rfl) (by decide) (by decide) k) ?_
  refine own_st (T' := T2) (F' := (mkF m 11 #[.val (.ref a1)] [(.ref a1)])) (fun t k => XS.aloadN X2.here hx rfl (hb hby d12_10) rfl rfl k) ?_
  obtain ⟨T3, X3, e3, st3⟩ := getF X2 hx hZ hown (host := "") (Or.inl (hw _ (List.mem_of_getElem? (i := 117) rfl))) Via.refl e2 FL1 (g := (mkF m 11 #[.val (.ref a1)] [(.ref a1)])) rfl rfl (hb hby d12_11)
  refine own_st (T' := T3) (F' := (mkF m 14 #[.val (.ref a1)] [(.int q)])) st3 ?_
  refine own_st (T' := T3) (F' := (mkF m 23 #[.val (.ref a1)] [(.int q)])) (fun t k => XS.goto X3.here hx rfl (pc0 := 14) (pc' := 23) rfl (hb hby d12_14) (by decide) (by decide) k) ?_
  exact own_retI X3 hx Bd.returns (hb hby d12_23) hlk (by show QP Z (.int q) h0 _ T3.heap _; rw [e3]; exact ⟨rfl, N, rfl⟩) (by decide) (by decide)
set_option maxRecDepth 65536 in
set_option maxHeartbeats 40000000 in
theorem rmT_N (l : Launch) (Z : State) (a0 : Array Value) {w_FRONT : Addr} {w_PART : Addr} {w_DIVISION : Addr} {w_BACK : Addr} {w_CHAPTER : Addr} {w_ARTICLE : Addr} {w_SECTION : Addr} {w_RESERVED : Addr} {w_dc : Addr} {w_el : Addr} {mA : Addr} {mL : Addr} {mR : Addr} (CX : Ctx Z a0 w_FRONT w_PART w_DIVISION w_BACK w_CHAPTER w_ARTICLE w_SECTION w_RESERVED w_dc w_el mA mL mR) (ws : List Jvm.Cond) (a1 r : Addr) (q : Int32) (h0 : Heap) (O : Ext Z.heap h0) (FK1 : Fld Z h0 a1 "com/example/catchline/catchline/Node" "kind" "Lcom/example/catchline/catchline/Kind;" (.ref r)) (FL1 : Fld Z h0 a1 "com/example/catchline/catchline/Node" "line" "I" (.int q)) (hne : r ≠ w_FRONT) :
    MetFree l (⟨"com/example/catchline/catchline/Node", "textStart", "()I"⟩ : MethodName) (head1 (Jvm.Cond.code (⟨"com/example/catchline/catchline/Node", "textStart", "()I"⟩ : MethodName) prog_43_method_16_code 1 (some .int) :: ws) ({ frames := 0, cells := 0, slots := 0, locals := 0 } : Room)) (fun a U => a = #[(.ref a1)] ∧ Z.Warmed39 U.vm ∧ U.heap = h0) (fun _ _ _ _ _ => True) (fun _ U o U' => ∃ v L, o = .returned v ∧ QP Z (.int (q + (1 : Int32))) h0 v U'.heap L ∧ FrameEnd U o U' L ({ frames := 0, cells := 0, slots := 0, locals := 0 } : Room).cells ({ frames := 0, cells := 0, slots := 0, locals := 0 } : Room).slots) := by
  refine MetFree.of_bodySF (plainFor_of_name pn_9) hisR ?_
  intro p e s m args below meth c s₁ Bd hml0 hP hK
  obtain ⟨rfl, hZ, hh⟩ := hP
  have CX0 := CX
  obtain ⟨hw, S_FRONT, E_FRONT, S_PART, E_PART, S_DIVISION, E_DIVISION, S_BACK, E_BACK, S_CHAPTER, E_CHAPTER, S_ARTICLE, E_ARTICLE, S_SECTION, E_SECTION, S_RESERVED, E_RESERVED, O_PART, O_FRONT, O_DIVISION, O_BACK, O_CHAPTER, O_ARTICLE, O_SECTION, O_RESERVED, S_dc, S_el, MmA, MmL, MmR, -⟩ := CX0
  have hx := Bd.exec
  have hby := Bd.bytes
  have hml : c.maxLocals = 1 := hml0
  have hown : s.vm.findClass "com/example/catchline/catchline/Node" = some m.cls := findClass_of_methodNamed Bd.named
  have hnm := (name_of_methodNamed Bd.named Bd.method).1
  have hlk : meth.locks = false := BodyLoose.notSynchronized Bd
  have X0 : Stand p l e ({ frames := 0, cells := 0, slots := 0, locals := 0 } : Room) s m #[(.ref a1)] below meth c s₁ [] 0 0 := Stand.of_body Bd
  have e0 : s₁.heap = h0 := by rw [← hh, Bd.state]; rfl
  have N := Fr.nil Z.heap.size
  show own_Done p.tables e below (own_R (QP Z (.int (q + (1 : Int32))) h0) s 0 0) s₁ (entryFrame m #[(.ref a1)] 1)
  refine own_st (T' := s₁) (F' := (mkF m 0 #[.val (.ref a1)] [])) (fun t k => castTop (by first | rfl | (simp [entryFrame, mkF, argsToLocals, Value.category]; done)) k) ?_
  refine own_st (T' := s₁) (F' := (mkF m 1 #[.val (.ref a1)] [(.ref a1)])) (fun t k => XS.aloadN X0.here hx rfl (hb hby d12_0) rfl rfl k) ?_
  obtain ⟨T1, X1, e1, st1⟩ := getF X0 hx hZ hown (host := "") (Or.inl (hw _ (List.mem_of_getElem? (i := 111) rfl))) Via.refl e0 FK1 (g := (mkF m 1 #[.val (.ref a1)] [(.ref a1)])) rfl rfl (hb hby d12_1)
  refine own_st (T' := T1) (F' := (mkF m 4 #[.val (.ref a1)] [(.ref r)])) st1 ?_
  obtain ⟨T2, X2, e2, st2⟩ := getS2 X1 hx hZ hown (host := "") (Or.inl (hw _ (List.mem_of_getElem? (i := 126) rfl))) Via.refl e1 (S_FRONT.ext O) (g := (mkF m 4 #[.val (.ref a1)] [(.ref r)])) rfl (hb hby d12_4)
  refine own_st (T' := T2) (F' := (mkF m 7 #[.val (.ref a1)] [(.ref w_FRONT), (.ref r)])) st2 ?_
  refine own_st (T' := T2) (F' := (mkF m 17 #[.val (.ref a1)] [])) (fun t k => Jvm.RoadKit.acmp (g := (mkF m 7 #[.val (.ref a1)] [(.ref w_FRONT), (.ref r)])) X2 hx rfl rfl rfl (pc0 := 7) (pc' := 17) (same := false) rfl (hb hby d12_7) rfl (decide_eq_false fun q => hne (Value.ref.inj q)) (by decide) (by decide) k) ?_
  refine own_st (T' := T2) (F' := (mkF m 18 #[.val (.ref a1)] [(.ref a1)])) (fun t k => XS.aloadN X2.here hx rfl (hb hby d12_17) rfl rfl k) ?_
  obtain ⟨T3, X3, e3, st3⟩ := getF X2 hx hZ hown (host := "") (Or.inl (hw _ (List.mem_of_getElem? (i := 117) rfl))) Via.refl e2 FL1 (g := (mkF m 18 #[.val (.ref a1)] [(.ref a1)])) rfl rfl (hb hby d12_18)
  refine own_st (T' := T3) (F' := (mkF m 21 #[.val (.ref a1)] [(.int q)])) st3 ?_
  refine own_st (T' := T3) (F' := (mkF m 22 #[.val (.ref a1)] [(.int (1 : Int32)), (.int q)])) (fun t k => XS.iconst X3.here hx rfl (hb hby d12_21) k) ?_
  refine own_st (T' := T3) (F' := (mkF m 23 #[.val (.ref a1)] [(.int (q + (1 : Int32)))])) (fun t k => XS.iadd X3.here hx rfl (hb hby d12_22) rfl k) ?_
  exact own_retI X3 hx Bd.returns (hb hby d12_23) hlk (by show QP Z (.int (q + (1 : Int32))) h0 _ T3.heap _; rw [e3]; exact ⟨rfl, N, rfl⟩) (by decide) (by decide)
theorem d13_0 : decode prog_43_method_5_code 0 = .ok (.aload_n 0, 1) := by decide +kernel
theorem d13_1 : decode prog_43_method_5_code 1 = .ok (.getfield 57, 3) := by decide +kernel
theorem d13_4 : decode prog_43_method_5_code 4 = .ok (.ireturn, 1) := by decide +kernel
set_option maxRecDepth 65536 in
set_option maxHeartbeats 40000000 in
theorem rm13 (l : Launch) (Z : State) (a0 : Array Value) {w_FRONT : Addr} {w_PART : Addr} {w_DIVISION : Addr} {w_BACK : Addr} {w_CHAPTER : Addr} {w_ARTICLE : Addr} {w_SECTION : Addr} {w_RESERVED : Addr} {w_dc : Addr} {w_el : Addr} {mA : Addr} {mL : Addr} {mR : Addr} (CX : Ctx Z a0 w_FRONT w_PART w_DIVISION w_BACK w_CHAPTER w_ARTICLE w_SECTION w_RESERVED w_dc w_el mA mL mR) (ws : List Jvm.Cond) (a1 : Addr) (r : Int32) (h0 : Heap) (O : Ext Z.heap h0) (F1 : Fld Z h0 a1 "com/example/catchline/catchline/Node" "line" "I" (.int r)) :
    MetFree l (⟨"com/example/catchline/catchline/Node", "line", "()I"⟩ : MethodName) (head1 (Jvm.Cond.code (⟨"com/example/catchline/catchline/Node", "line", "()I"⟩ : MethodName) prog_43_method_5_code 1 (some .int) :: ws) ({ frames := 0, cells := 0, slots := 0, locals := 0 } : Room)) (fun a U => a = #[(.ref a1)] ∧ Z.Warmed39 U.vm ∧ U.heap = h0) (fun _ _ _ _ _ => True) (fun _ U o U' => ∃ v L, o = .returned v ∧ QP Z (.int r) h0 v U'.heap L ∧ FrameEnd U o U' L ({ frames := 0, cells := 0, slots := 0, locals := 0 } : Room).cells ({ frames := 0, cells := 0, slots := 0, locals := 0 } : Room).slots) := by
  refine MetFree.of_bodySF (plainFor_of_name pn_9) hisR ?_
  intro p e s m args below meth c s₁ Bd hml0 hP hK
  obtain ⟨rfl, hZ, hh⟩ := hP
  have CX0 := CX
  obtain ⟨hw, S_FRONT, E_FRONT, S_PART, E_PART, S_DIVISION, E_DIVISION, S_BACK, E_BACK, S_CHAPTER, E_CHAPTER, S_ARTICLE, E_ARTICLE, S_SECTION, E_SECTION, S_RESERVED, E_RESERVED, O_PART, O_FRONT, O_DIVISION, O_BACK, O_CHAPTER, O_ARTICLE, O_SECTION, O_RESERVED, S_dc, S_el, MmA, MmL, MmR, -⟩ := CX0
  have hx := Bd.exec
  have hby := Bd.bytes
  have hml : c.maxLocals = 1 := hml0
  have hown : s.vm.findClass "com/example/catchline/catchline/Node" = some m.cls := findClass_of_methodNamed Bd.named
  have hnm := (name_of_methodNamed Bd.named Bd.method).1
  have hlk : meth.locks = false := BodyLoose.notSynchronized Bd
  have X0 : Stand p l e ({ frames := 0, cells := 0, slots := 0, locals := 0 } : Room) s m #[(.ref a1)] below meth c s₁ [] 0 0 := Stand.of_body Bd
  have e0 : s₁.heap = h0 := by rw [← hh, Bd.state]; rfl
  have N := Fr.nil Z.heap.size
  show own_Done p.tables e below (own_R (QP Z (.int r) h0) s 0 0) s₁ (entryFrame m #[(.ref a1)] 1)
  refine own_st (T' := s₁) (F' := (mkF m 0 #[.val (.ref a1)] [])) (fun t k => castTop (by first | rfl | (simp [entryFrame, mkF, argsToLocals, Value.category]; done)) k) ?_
  refine own_st (T' := s₁) (F' := (mkF m 1 #[.val (.ref a1)] [(.ref a1)])) (fun t k => XS.aloadN X0.here hx rfl (hb hby d13_0) rfl rfl k) ?_
  obtain ⟨T1, X1, e1, st1⟩ := getF X0 hx hZ hown (host := "") (Or.inl (hw _ (List.mem_of_getElem? (i := 117) rfl))) Via.refl e0 F1 (g := (mkF m 1 #[.val (.ref a1)] [(.ref a1)])) rfl rfl (hb hby d13_1)
  refine own_st (T' := T1) (F' := (mkF m 4 #[.val (.ref a1)] [(.int r)])) st1 ?_
  exact own_retI X1 hx Bd.returns (hb hby d13_4) hlk (by show QP Z (.int r) h0 _ T1.heap _; rw [e1]; exact ⟨rfl, N, rfl⟩) (by decide) (by decide)
theorem d14_0 : decode prog_43_method_2_code 0 = .ok (.aload_n 0, 1) := by decide +kernel
theorem d14_1 : decode prog_43_method_2_code 1 = .ok (.getfield 46, 3) := by decide +kernel
theorem d14_4 : decode prog_43_method_2_code 4 = .ok (.areturn, 1) := by decide +kernel
set_option maxRecDepth 65536 in
set_option maxHeartbeats 40000000 in
theorem rm14 (l : Launch) (Z : State) (a0 : Array Value) {w_FRONT : Addr} {w_PART : Addr} {w_DIVISION : Addr} {w_BACK : Addr} {w_CHAPTER : Addr} {w_ARTICLE : Addr} {w_SECTION : Addr} {w_RESERVED : Addr} {w_dc : Addr} {w_el : Addr} {mA : Addr} {mL : Addr} {mR : Addr} (CX : Ctx Z a0 w_FRONT w_PART w_DIVISION w_BACK w_CHAPTER w_ARTICLE w_SECTION w_RESERVED w_dc w_el mA mL mR) (ws : List Jvm.Cond) (a1 : Addr) (r : Value) (hr : r.isRef = true) (h0 : Heap) (O : Ext Z.heap h0) (F1 : Fld Z h0 a1 "com/example/catchline/catchline/Node" "kind" "Lcom/example/catchline/catchline/Kind;" r) :
    MetFree l (⟨"com/example/catchline/catchline/Node", "kind", "()Lcom/example/catchline/catchline/Kind;"⟩ : MethodName) (head1 (Jvm.Cond.code (⟨"com/example/catchline/catchline/Node", "kind", "()Lcom/example/catchline/catchline/Kind;"⟩ : MethodName) prog_43_method_2_code 1 (some (.object "com/example/catchline/catchline/Kind")) :: ws) ({ frames := 0, cells := 0, slots := 0, locals := 0 } : Room)) (fun a U => a = #[(.ref a1)] ∧ Z.Warmed39 U.vm ∧ U.heap = h0) (fun _ _ _ _ _ => True) (fun _ U o U' => ∃ v L, o = .returned v ∧ QP Z r h0 v U'.heap L ∧ FrameEnd U o U' L ({ frames := 0, cells := 0, slots := 0, locals := 0 } : Room).cells ({ frames := 0, cells := 0, slots := 0, locals := 0 } : Room).slots) := by
  refine MetFree.of_bodySF (plainFor_of_name pn_9) hisR ?_
  intro p e s m args below meth c s₁ Bd hml0 hP hK
  obtain ⟨rfl, hZ, hh⟩ := hP
  have CX0 := CX
  obtain ⟨hw, S_FRONT, E_FRONT, S_PART, E_PART, S_DIVISION, E_DIVISION, S_BACK, E_BACK, S_CHAPTER, E_CHAPTER, S_ARTICLE, E_ARTICLE, S_SECTION, E_SECTION, S_RESERVED, E_RESERVED, O_PART, O_FRONT, O_DIVISION, O_BACK, O_CHAPTER, O_ARTICLE, O_SECTION, O_RESERVED, S_dc, S_el, MmA, MmL, MmR, -⟩ := CX0
  have hx := Bd.exec
  have hby := Bd.bytes
  have hml : c.maxLocals = 1 := hml0
  have hown : s.vm.findClass "com/example/catchline/catchline/Node" = some m.cls := findClass_of_methodNamed Bd.named
  have hnm := (name_of_methodNamed Bd.named Bd.method).1
  have hlk : meth.locks = false := BodyLoose.notSynchronized Bd
  have X0 : Stand p l e ({ frames := 0, cells := 0, slots := 0, locals := 0 } : Room) s m #[(.ref a1)] below meth c s₁ [] 0 0 := Stand.of_body Bd
  have e0 : s₁.heap = h0 := by rw [← hh, Bd.state]; rfl
  have N := Fr.nil Z.heap.size
  show own_Done p.tables e below (own_R (QP Z r h0) s 0 0) s₁ (entryFrame m #[(.ref a1)] 1)
  refine own_st (T' := s₁) (F' := (mkF m 0 #[.val (.ref a1)] [])) (fun t k => castTop (by first | rfl | (simp [entryFrame, mkF, argsToLocals, Value.category]; done)) k) ?_
  refine own_st (T' := s₁) (F' := (mkF m 1 #[.val (.ref a1)] [(.ref a1)])) (fun t k => XS.aloadN X0.here hx rfl (hb hby d14_0) rfl rfl k) ?_
  obtain ⟨T1, X1, e1, st1⟩ := getF X0 hx hZ hown (host := "") (Or.inl (hw _ (List.mem_of_getElem? (i := 111) rfl))) Via.refl e0 F1 (g := (mkF m 1 #[.val (.ref a1)] [(.ref a1)])) rfl rfl (hb hby d14_1)
  refine own_st (T' := T1) (F' := (mkF m 4 #[.val (.ref a1)] [r])) st1 ?_
  exact own_retA X1 hx (t := (.object "com/example/catchline/catchline/Kind")) Bd.returns rfl hr (hb hby d14_4) hlk (by show QP Z r h0 _ T1.heap _; rw [e1]; exact ⟨rfl, N, rfl⟩) (by decide) (by decide)
theorem pd_5 : parseMethodDescriptor "(I)Lcom/example/catchline/catchline/Kind;" = some ⟨[.int], some (.object "com/example/catchline/catchline/Kind")⟩ := by decide +kernel
theorem pd_6 : parseMethodDescriptor "(Lcom/example/catchline/catchline/Kind;Ljava/lang/String;Ljava/lang/String;IZ)V" = some ⟨[(.object "com/example/catchline/catchline/Kind"), (.object "java/lang/String"), (.object "java/lang/String"), .int, .boolean], none⟩ := by decide +kernel
theorem pd_7 : parseMethodDescriptor "()I" = some ⟨[], some .int⟩ := by decide +kernel
theorem pd_8 : parseMethodDescriptor "()Lcom/example/catchline/catchline/Kind;" = some ⟨[], some (.object "com/example/catchline/catchline/Kind")⟩ := by decide +kernel
set_option maxRecDepth 65536 in
set_option maxHeartbeats 40000000 in
theorem rm0 (l : Launch) (Z : State) (a0 : Array Value) {w_FRONT : Addr} {w_PART : Addr} {w_DIVISION : Addr} {w_BACK : Addr} {w_CHAPTER : Addr} {w_ARTICLE : Addr} {w_SECTION : Addr} {w_RESERVED : Addr} {w_dc : Addr} {w_el : Addr} {mA : Addr} {mL : Addr} {mR : Addr} (CX : Ctx Z a0 w_FRONT w_PART w_DIVISION w_BACK w_CHAPTER w_ARTICLE w_SECTION w_RESERVED w_dc w_el mA mL mR) (ws : List Jvm.Cond) (x0 : Int32) (x1 : Int32) (x2 : Int32) (h0 : Heap) (O : Ext Z.heap h0)  :
    MetFree l x (head1 (Jvm.Cond.code x code maxLocals ret :: ws) room_1) (fun a U => a = #[(.int x0), (.int x1), (.int x2)] ∧ Z.Warmed39 U.vm ∧ U.heap = h0) (fun _ _ _ _ _ => True) (fun _ U o U' => ∃ v L, o = .returned v ∧ Q0 Z v U'.heap L ∧ ReturnedEndW U o U' L room_1.cells room_1.slots) := by
  refine MetFree.of_bodySF (plainFor_of_name pn_0) hisR ?_
  intro p e s m args below meth c s₁ Bd hml0 hP hK
  obtain ⟨rfl, hZ, hh⟩ := hP
  have CX0 := CX
  obtain ⟨hw, S_FRONT, E_FRONT, S_PART, E_PART, S_DIVISION, E_DIVISION, S_BACK, E_BACK, S_CHAPTER, E_CHAPTER, S_ARTICLE, E_ARTICLE, S_SECTION, E_SECTION, S_RESERVED, E_RESERVED, O_PART, O_FRONT, O_DIVISION, O_BACK, O_CHAPTER, O_ARTICLE, O_SECTION, O_RESERVED, S_dc, S_el, MmA, MmL, MmR, -⟩ := CX0
  have hx := Bd.exec
  have hby := Bd.bytes
  have hml : c.maxLocals = 9 := hml0
  have hown : s.vm.findClass "com/example/catchline/catchline/NodeTextStartPinLaw" = some m.cls := findClass_of_methodNamed Bd.named
  have hnm := (name_of_methodNamed Bd.named Bd.method).1
  have hlk : meth.locks = false := BodyLoose.notSynchronized Bd
  have X0 : Stand p l e room_1 (s.setVm s.vm) m #[(.int x0), (.int x1), (.int x2)] below meth c s₁ [] 0 0 := Stand.of_body Bd
  have e0 : s₁.heap = h0 := by rw [← hh, Bd.state]; rfl
  have N := Fr.nil Z.heap.size
  have wS : ∀ a ∈ Bundle.stringAtoms, a.before a0 Z = true := by
    intro a ha
    simp only [Bundle.stringAtoms, List.mem_cons, List.not_mem_nil, or_false] at ha
    rcases ha with rfl | rfl | rfl | rfl | rfl | rfl | rfl
    · exact (hw _ (List.mem_of_getElem? (i := 11) rfl))
    · exact (hw _ (List.mem_of_getElem? (i := 12) rfl))
    · exact (hw _ (List.mem_of_getElem? (i := 13) rfl))
    · exact (hw _ (List.mem_of_getElem? (i := 14) rfl))
    · exact (hw _ (List.mem_of_getElem? (i := 15) rfl))
    · exact (hw _ (List.mem_of_getElem? (i := 16) rfl))
    · exact (hw _ (List.mem_of_getElem? (i := 17) rfl))
  have hS : s.Since s.vm 0 := State.WarmedH.since (State.WarmedH.refl s) 0
  have hk : 0 ≤ h0.size := Nat.zero_le _
  show own_Done p.tables e below (own_RW (Q0 Z) s 24 1152) s₁ (entryFrame m #[(.int x0), (.int x1), (.int x2)] maxLocals)
  refine own_st (T' := s₁) (F' := (mkF m 0 #[.val (.int x0), .val (.int x1), .val (.int x2), .unset, .unset, .unset, .unset, .unset, .unset] [])) (fun t k => castTop (by first | rfl | (simp [entryFrame, mkF, argsToLocals, Value.category, maxLocals]; done)) k) ?_
  by_cases hk0_1 : (x0 &&& (7 : Int32)) = (0 : Int32)
  · refine own_st (T' := s₁) (F' := (mkF m 1 #[.val (.int x0), .val (.int x1), .val (.int x2), .unset, .unset, .unset, .unset, .unset, .unset] [(.int x0)])) (fun t k => XS.iloadN X0.here hx rfl (hb hby at_0) rfl k) ?_
    refine own_st (T' := s₁) (F' := (mkF m 3 #[.val (.int x0), .val (.int x1), .val (.int x2), .unset, .unset, .unset, .unset, .unset, .unset] [(.int (7 : Int32)), (.int x0)])) (fun t k => XS.bipush X0.here hx rfl (hb hby at_1) k) ?_
    refine own_st (T' := s₁) (F' := (mkF m 4 #[.val (.int x0), .val (.int x1), .val (.int x2), .unset, .unset, .unset, .unset, .unset, .unset] [(.int (x0 &&& (7 : Int32)))])) (fun t k => XS.iand X0.here hx rfl (hb hby at_3) rfl k) ?_
    refine own_st (T' := s₁) (F' := (mkF m 5 #[.val (.int x0), .val (.int x1), .val (.int x2), .val (.int (x0 &&& (7 : Int32))), .unset, .unset, .unset, .unset, .unset] [])) (fun t k => XS.istoreN X0.here hx rfl (hb hby at_4) rfl (l' := #[.val (.int x0), .val (.int x1), .val (.int x2), .val (.int (x0 &&& (7 : Int32))), .unset, .unset, .unset, .unset, .unset]) rfl k) ?_
    refine own_st (T' := s₁) (F' := (mkF m 6 #[.val (.int x0), .val (.int x1), .val (.int x2), .val (.int (x0 &&& (7 : Int32))), .unset, .unset, .unset, .unset, .unset] [(.int (x0 &&& (7 : Int32)))])) (fun t k => XS.iloadN X0.here hx rfl (hb hby at_5) rfl k) ?_
    obtain ⟨v2, _, ⟨T2, L2, k2, n2⟩, -, X2, ⟨Lc2, hQ2, l2, y2, z2⟩, st2⟩ := Jvm.LawKit.callS X0 hx (y := (⟨"com/example/catchline/catchline/NodeTextStartPinLaw", "kindOf", "(I)Lcom/example/catchline/catchline/Kind;"⟩ : MethodName)) hown (mvT hZ (hw _ (List.mem_of_getElem? (i := 0) rfl))) (mvT hZ (hw _ (List.mem_of_getElem? (i := 1) rfl))) (mvT hZ (hw _ (List.mem_of_getElem? (i := 2) rfl))) (mvT hZ (hw _ (List.mem_of_getElem? (i := 3) rfl))) (by decide) (backOf (W := 0) (rmK_F l Z a0 CX [] (x0 &&& (7 : Int32)) h0 O hk0_1) hZ (hw _ (List.mem_of_getElem? (i := 3) rfl)) (hw _ (List.mem_of_getElem? (i := 2) rfl)) (by decide) (by decide)) (g := (mkF m 6 #[.val (.int x0), .val (.int x1), .val (.int x2), .val (.int (x0 &&& (7 : Int32))), .unset, .unset, .unset, .unset, .unset] [(.int (x0 &&& (7 : Int32)))])) rfl (by rw [hml]; rfl) (argsL := [(.int (x0 &&& (7 : Int32)))]) (rest := []) (lenOf pd_5 rfl) rfl (by show 2 * 0 + _ ≤ _; exact Nat.le_of_eq rfl) (hb hby at_6) (fun _ _ => ⟨rfl, e0, (by decide : 0 + 0 ≤ _), (by decide : 0 + 0 ≤ _)⟩)
    dsimp only [Pt.U, Pt.locs, Pt.cells, Pt.slots] at X2 l2 y2 z2 st2 hQ2
    subst l2 y2 z2
    obtain ⟨rfl, N2q, e2⟩ := hQ2
    have N := Fr.app N N2q
    refine own_st (T' := T2) (F' := (mkF m 9 #[.val (.int x0), .val (.int x1), .val (.int x2), .val (.int (x0 &&& (7 : Int32))), .unset, .unset, .unset, .unset, .unset] [(.ref w_FRONT)])) st2 ?_
    refine own_st (T' := T2) (F' := (mkF m 11 #[.val (.int x0), .val (.int x1), .val (.int x2), .val (.int (x0 &&& (7 : Int32))), .val (.ref w_FRONT), .unset, .unset, .unset, .unset] [])) (fun t k => XS.astore X2.here hx rfl (hb hby at_9) rfl rfl (l' := #[.val (.int x0), .val (.int x1), .val (.int x2), .val (.int (x0 &&& (7 : Int32))), .val (.ref w_FRONT), .unset, .unset, .unset, .unset]) rfl k) ?_
    have J24_3 : ∀ (T4 : State) (L4 : List Loc) (X4 : Stand p l e room_1 (s.setVm s.vm) m #[(.int x0), (.int x1), (.int x2)] below meth c T4 L4 0 0) (e4 : T4.heap = h0) (N : Fr Z.heap.size L4) (bj5 : Int32) (hbj5 : bj5 = 0 ∨ bj5 = 1), own_Done p.tables e below (own_RW (Q0 Z) s 24 1152) T4 (mkF m 24 #[.val (.int x0), .val (.int x1), .val (.int x2), .val (.int (x0 &&& (7 : Int32))), .val (.ref w_FRONT), .val (.int bj5), .unset, .unset, .unset] []) := by
      intro T4 L4 X4 e4 N bj5 hbj5
      obtain ⟨T5, h5, X5, e5, E5, A5, D5, U5, st5⟩ := newO X4 hx hZ hown (hw _ (List.mem_of_getElem? (i := 7) rfl)) (hw _ (List.mem_of_getElem? (i := 8) rfl)) (hw _ (List.mem_of_getElem? (i := 9) rfl)) e4 (g := (mkF m 24 #[.val (.int x0), .val (.int x1), .val (.int x2), .val (.int (x0 &&& (7 : Int32))), .val (.ref w_FRONT), .val (.int bj5), .unset, .unset, .unset] [])) rfl (hb hby at_24) (by decide) (by decide)
      obtain ⟨b5, g5⟩ : ∃ z, z = h0.size := ⟨_, rfl⟩
      rw [← g5] at A5 D5 U5 st5
      have g_b5 : Z.heap.size ≤ b5 := Nat.le_trans O.1 (Nat.le_of_eq g5.symm)
      have O := own_ext_trans O E5
      have hk := Nat.le_trans hk E5.1
      have E_b5 := A5
      have F_children_b5 : Fld Z h5 b5 "com/example/catchline/catchline/Node" "children" "Ljava/util/List;" .null := D5 (Or.inr (hw _ (List.mem_of_getElem? (i := 49) rfl))) (ty := (.object "java/util/List")) (by decide)
      have F_childrenView_b5 : Fld Z h5 b5 "com/example/catchline/catchline/Node" "childrenView" "Ljava/util/List;" .null := D5 (Or.inr (hw _ (List.mem_of_getElem? (i := 94) rfl))) (ty := (.object "java/util/List")) (by decide)
      have F_notes_b5 : Fld Z h5 b5 "com/example/catchline/catchline/Node" "notes" "Ljava/util/List;" .null := D5 (Or.inr (hw _ (List.mem_of_getElem? (i := 96) rfl))) (ty := (.object "java/util/List")) (by decide)
      have F_history_b5 : Fld Z h5 b5 "com/example/catchline/catchline/Node" "history" "Ljava/util/List;" .null := D5 (Or.inr (hw _ (List.mem_of_getElem? (i := 98) rfl))) (ty := (.object "java/util/List")) (by decide)
      have F_footnotes_b5 : Fld Z h5 b5 "com/example/catchline/catchline/Node" "footnotes" "Ljava/util/List;" .null := D5 (Or.inr (hw _ (List.mem_of_getElem? (i := 100) rfl))) (ty := (.object "java/util/List")) (by decide)
      have F_parts_b5 : Fld Z h5 b5 "com/example/catchline/catchline/Node" "parts" "Ljava/util/List;" .null := D5 (Or.inl (hw _ (List.mem_of_getElem? (i := 108) rfl))) (ty := (.object "java/util/List")) (by decide)
      have F_citations_b5 : Fld Z h5 b5 "com/example/catchline/catchline/Node" "citations" "Ljava/util/List;" .null := D5 (Or.inr (hw _ (List.mem_of_getElem? (i := 110) rfl))) (ty := (.object "java/util/List")) (by decide)
      have F_kind_b5 : Fld Z h5 b5 "com/example/catchline/catchline/Node" "kind" "Lcom/example/catchline/catchline/Kind;" .null := D5 (Or.inr (hw _ (List.mem_of_getElem? (i := 112) rfl))) (ty := (.object "com/example/catchline/catchline/Kind")) (by decide)
      have F_number_b5 : Fld Z h5 b5 "com/example/catchline/catchline/Node" "number" "Ljava/lang/String;" .null := D5 (Or.inr (hw _ (List.mem_of_getElem? (i := 114) rfl))) (ty := (.object "java/lang/String")) (by decide)
      have F_title_b5 : Fld Z h5 b5 "com/example/catchline/catchline/Node" "title" "Ljava/lang/String;" .null := D5 (Or.inr (hw _ (List.mem_of_getElem? (i := 116) rfl))) (ty := (.object "java/lang/String")) (by decide)
      have F_line_b5 : Fld Z h5 b5 "com/example/catchline/catchline/Node" "line" "I" (.int (0 : Int32)) := D5 (Or.inr (hw _ (List.mem_of_getElem? (i := 118) rfl))) (ty := .int) (by decide)
      have F_malformed_b5 : Fld Z h5 b5 "com/example/catchline/catchline/Node" "malformed" "Z" (.int (0 : Int32)) := D5 (Or.inr (hw _ (List.mem_of_getElem? (i := 120) rfl))) (ty := .boolean) (by decide)
      refine own_st (T' := T5) (F' := (mkF m 27 #[.val (.int x0), .val (.int x1), .val (.int x2), .val (.int (x0 &&& (7 : Int32))), .val (.ref w_FRONT), .val (.int bj5), .unset, .unset, .unset] [(.ref b5)])) st5 ?_
      refine own_st (T' := T5) (F' := (mkF m 28 #[.val (.int x0), .val (.int x1), .val (.int x2), .val (.int (x0 &&& (7 : Int32))), .val (.ref w_FRONT), .val (.int bj5), .unset, .unset, .unset] [(.ref b5), (.ref b5)])) (fun t k => XS.dup X5.here hx rfl (hb hby at_27) rfl rfl k) ?_
      refine own_st (T' := T5) (F' := (mkF m 30 #[.val (.int x0), .val (.int x1), .val (.int x2), .val (.int (x0 &&& (7 : Int32))), .val (.ref w_FRONT), .val (.int bj5), .unset, .unset, .unset] [(.ref w_FRONT), (.ref b5), (.ref b5)])) (fun t k => XS.aload X5.here hx rfl (hb hby at_28) rfl rfl k) ?_
      obtain ⟨a6, T6, h6, ks6, X6, e6, E6, hS, hk6, hZ, hown, st6⟩ := ldcS X5 hx hZ hown (hw _ (List.mem_of_getElem? (i := 10) rfl)) wS e5 hS hk (g := (mkF m 30 #[.val (.int x0), .val (.int x1), .val (.int x2), .val (.int (x0 &&& (7 : Int32))), .val (.ref w_FRONT), .val (.int bj5), .unset, .unset, .unset] [(.ref w_FRONT), (.ref b5), (.ref b5)])) rfl (hb hby at_30) (n := 0) (by first | decide | simp | rfl) (by first | decide | simp | rfl) (by decide) (by decide)
      have E_b5 := E_b5.ext E6
      have F_children_b5 := F_children_b5.ext E6
      have F_childrenView_b5 := F_childrenView_b5.ext E6
      have F_notes_b5 := F_notes_b5.ext E6
      have F_history_b5 := F_history_b5.ext E6
      have F_footnotes_b5 := F_footnotes_b5.ext E6
      have F_parts_b5 := F_parts_b5.ext E6
      have F_citations_b5 := F_citations_b5.ext E6
      have F_kind_b5 := F_kind_b5.ext E6
      have F_number_b5 := F_number_b5.ext E6
      have F_title_b5 := F_title_b5.ext E6
      have F_line_b5 := F_line_b5.ext E6
      have F_malformed_b5 := F_malformed_b5.ext E6
      have O := own_ext_trans O E6
      have hk := Nat.le_trans hk E6.1
      have hk := hk6
      refine own_st (T' := T6) (F' := (mkF m 32 #[.val (.int x0), .val (.int x1), .val (.int x2), .val (.int (x0 &&& (7 : Int32))), .val (.ref w_FRONT), .val (.int bj5), .unset, .unset, .unset] [(.ref a6), (.ref w_FRONT), (.ref b5), (.ref b5)])) st6 ?_
      obtain ⟨a7, T7, h7, ks7, X7, e7, E7, hS, hk7, hZ, hown, st7⟩ := ldcS X6 hx hZ hown (hw _ (List.mem_of_getElem? (i := 10) rfl)) wS e6 hS hk (g := (mkF m 32 #[.val (.int x0), .val (.int x1), .val (.int x2), .val (.int (x0 &&& (7 : Int32))), .val (.ref w_FRONT), .val (.int bj5), .unset, .unset, .unset] [(.ref a6), (.ref w_FRONT), (.ref b5), (.ref b5)])) rfl (hb hby at_32) (n := 0) (by first | decide | simp | rfl) (by first | decide | simp | rfl) (by decide) (by decide)
      have E_b5 := E_b5.ext E7
      have F_children_b5 := F_children_b5.ext E7
      have F_childrenView_b5 := F_childrenView_b5.ext E7
      have F_notes_b5 := F_notes_b5.ext E7
      have F_history_b5 := F_history_b5.ext E7
      have F_footnotes_b5 := F_footnotes_b5.ext E7
      have F_parts_b5 := F_parts_b5.ext E7
      have F_citations_b5 := F_citations_b5.ext E7
      have F_kind_b5 := F_kind_b5.ext E7
      have F_number_b5 := F_number_b5.ext E7
      have F_title_b5 := F_title_b5.ext E7
      have F_line_b5 := F_line_b5.ext E7
      have F_malformed_b5 := F_malformed_b5.ext E7
      have O := own_ext_trans O E7
      have hk := Nat.le_trans hk E7.1
      have hk := hk7
      refine own_st (T' := T7) (F' := (mkF m 34 #[.val (.int x0), .val (.int x1), .val (.int x2), .val (.int (x0 &&& (7 : Int32))), .val (.ref w_FRONT), .val (.int bj5), .unset, .unset, .unset] [(.ref a7), (.ref a6), (.ref w_FRONT), (.ref b5), (.ref b5)])) st7 ?_
      refine own_st (T' := T7) (F' := (mkF m 35 #[.val (.int x0), .val (.int x1), .val (.int x2), .val (.int (x0 &&& (7 : Int32))), .val (.ref w_FRONT), .val (.int bj5), .unset, .unset, .unset] [(.int x1), (.ref a7), (.ref a6), (.ref w_FRONT), (.ref b5), (.ref b5)])) (fun t k => XS.iloadN X7.here hx rfl (hb hby at_34) rfl k) ?_
      refine own_st (T' := T7) (F' := (mkF m 37 #[.val (.int x0), .val (.int x1), .val (.int x2), .val (.int (x0 &&& (7 : Int32))), .val (.ref w_FRONT), .val (.int bj5), .unset, .unset, .unset] [(.int bj5), (.int x1), (.ref a7), (.ref a6), (.ref w_FRONT), (.ref b5), (.ref b5)])) (fun t k => XS.iload X7.here hx rfl (hb hby at_35) rfl k) ?_
      obtain ⟨v8, _, ⟨T8, L8, k8, n8⟩, -, X8, ⟨Lc8, hQ8, l8, y8, z8⟩, st8⟩ := X7.specialBack hx (y := (⟨"com/example/catchline/catchline/Node", "<init>", "(Lcom/example/catchline/catchline/Kind;Ljava/lang/String;Ljava/lang/String;IZ)V"⟩ : MethodName)) rfl hown (mvT hZ (hw _ (List.mem_of_getElem? (i := 18) rfl))) (mvT hZ (hw _ (List.mem_of_getElem? (i := 19) rfl))) (mvT hZ (hw _ (List.mem_of_getElem? (i := 20) rfl))) (by decide) (backOf (W := 1) (rm2 l Z a0 CX [] b5 (.ref w_FRONT) rfl (.ref a6) rfl (.ref a7) rfl x1 bj5 hbj5 .null rfl .null rfl .null rfl .null rfl .null rfl .null rfl .null rfl .null rfl .null rfl .null rfl (0 : Int32) (0 : Int32) (Or.inl rfl) h7 O E_b5 g_b5 F_children_b5 F_childrenView_b5 F_notes_b5 F_history_b5 F_footnotes_b5 F_parts_b5 F_citations_b5 F_kind_b5 F_number_b5 F_title_b5 F_line_b5 F_malformed_b5) hZ (hw _ (List.mem_of_getElem? (i := 20) rfl)) (hw _ (List.mem_of_getElem? (i := 9) rfl)) (by decide) (by decide)) (g := (mkF m 37 #[.val (.int x0), .val (.int x1), .val (.int x2), .val (.int (x0 &&& (7 : Int32))), .val (.ref w_FRONT), .val (.int bj5), .unset, .unset, .unset] [(.int bj5), (.int x1), (.ref a7), (.ref a6), (.ref w_FRONT), (.ref b5), (.ref b5)])) rfl (by rw [hml]; rfl) (Steps.refl _) (a := b5) (argsL := [(.ref w_FRONT), (.ref a6), (.ref a7), (.int x1), (.int bj5)]) (rest := [(.ref b5)]) (lenOf pd_6 rfl) rfl (by show 2 * 0 + _ ≤ _; exact Nat.le_of_eq rfl) (hb hby at_37) (fun _ _ => ⟨rfl, e7, (by decide : 5 + 6 ≤ _), (by decide : 21 + 17 ≤ _)⟩)
      dsimp only [Pt.U, Pt.locs, Pt.cells, Pt.slots] at X8 l8 y8 z8 st8 hQ8
      subst l8 y8 z8
      obtain ⟨rfl, N8q, K8, F_kind_b5, F_line_b5⟩ := hQ8
      have N := Fr.app N N8q
      have E_b5 := E_b5.keep K8
      have O := own_O_keep O K8 (allS g_b5 all0)
      have hk := Nat.le_trans hk K8.1
      refine own_tr (T' := T8) (F' := (mkF m 40 #[.val (.int x0), .val (.int x1), .val (.int x2), .val (.int (x0 &&& (7 : Int32))), .val (.ref w_FRONT), .val (.int bj5), .unset, .unset, .unset] [(.ref b5)])) st8 ?_
      refine own_st (T' := T8) (F' := (mkF m 42 #[.val (.int x0), .val (.int x1), .val (.int x2), .val (.int (x0 &&& (7 : Int32))), .val (.ref w_FRONT), .val (.int bj5), .val (.ref b5), .unset, .unset] [])) (fun t k => XS.astore X8.here hx rfl (hb hby at_40) rfl rfl (l' := #[.val (.int x0), .val (.int x1), .val (.int x2), .val (.int (x0 &&& (7 : Int32))), .val (.ref w_FRONT), .val (.int bj5), .val (.ref b5), .unset, .unset]) rfl k) ?_
      refine own_st (T' := T8) (F' := (mkF m 44 #[.val (.int x0), .val (.int x1), .val (.int x2), .val (.int (x0 &&& (7 : Int32))), .val (.ref w_FRONT), .val (.int bj5), .val (.ref b5), .unset, .unset] [(.ref b5)])) (fun t k => XS.aload X8.here hx rfl (hb hby at_42) rfl rfl k) ?_
      obtain ⟨cq9, kq9, q9a, q9b, q9c⟩ := isOf hZ rfl E_b5
      obtain ⟨v9, _, ⟨T9, L9, k9, n9⟩, -, X9, ⟨Lc9, hQ9, l9, y9, z9⟩, st9⟩ := X8.virtualBack hx (y := (⟨"com/example/catchline/catchline/Node", "textStart", "()I"⟩ : MethodName)) (z := (⟨"com/example/catchline/catchline/Node", "textStart", "()I"⟩ : MethodName)) hown (mvT hZ (hw _ (List.mem_of_getElem? (i := 121) rfl))) (mvT hZ (hw _ (List.mem_of_getElem? (i := 122) rfl))) (notFace_of_selects (args := #[]) (mvT hZ (hw _ (List.mem_of_getElem? (i := 124) rfl)))) (mvT hZ (hw _ (List.mem_of_getElem? (i := 124) rfl))) (mvT hZ (hw _ (List.mem_of_getElem? (i := 123) rfl))) (by decide) (backOf (W := 0) (rmT_F l Z a0 CX [] b5 x1 T8.heap O F_kind_b5 F_line_b5) hZ (hw _ (List.mem_of_getElem? (i := 125) rfl)) (hw _ (List.mem_of_getElem? (i := 9) rfl)) (by decide) (by decide)) q9a q9c (g := (mkF m 44 #[.val (.int x0), .val (.int x1), .val (.int x2), .val (.int (x0 &&& (7 : Int32))), .val (.ref w_FRONT), .val (.int bj5), .val (.ref b5), .unset, .unset] [(.ref b5)])) rfl (by rw [hml]; rfl) (Steps.refl _) (argsL := []) (rest := []) (lenOf pd_7 rfl) rfl (by show 2 * 0 + _ ≤ _; exact Nat.le_of_eq rfl) (hb hby at_44) (fun _ _ => ⟨rfl, rfl, (by decide : 11 + 0 ≤ _), (by decide : 38 + 0 ≤ _)⟩)
      dsimp only [Pt.U, Pt.locs, Pt.cells, Pt.slots] at X9 l9 y9 z9 st9 hQ9
      subst l9 y9 z9
      obtain ⟨rfl, N9q, e9⟩ := hQ9
      have N := Fr.app N N9q
      refine own_tr (T' := T9) (F' := (mkF m 47 #[.val (.int x0), .val (.int x1), .val (.int x2), .val (.int (x0 &&& (7 : Int32))), .val (.ref w_FRONT), .val (.int bj5), .val (.ref b5), .unset, .unset] [(.int x1)])) st9 ?_
      refine own_st (T' := T9) (F' := (mkF m 49 #[.val (.int x0), .val (.int x1), .val (.int x2), .val (.int (x0 &&& (7 : Int32))), .val (.ref w_FRONT), .val (.int bj5), .val (.ref b5), .val (.int x1), .unset] [])) (fun t k => XS.istore X9.here hx rfl (hb hby at_47) rfl (l' := #[.val (.int x0), .val (.int x1), .val (.int x2), .val (.int (x0 &&& (7 : Int32))), .val (.ref w_FRONT), .val (.int bj5), .val (.ref b5), .val (.int x1), .unset]) rfl k) ?_
      refine own_st (T' := T9) (F' := (mkF m 50 #[.val (.int x0), .val (.int x1), .val (.int x2), .val (.int (x0 &&& (7 : Int32))), .val (.ref w_FRONT), .val (.int bj5), .val (.ref b5), .val (.int x1), .unset] [(.int (x0 &&& (7 : Int32)))])) (fun t k => XS.iloadN X9.here hx rfl (hb hby at_49) rfl k) ?_
      refine own_st (T' := T9) (F' := (mkF m 53 #[.val (.int x0), .val (.int x1), .val (.int x2), .val (.int (x0 &&& (7 : Int32))), .val (.ref w_FRONT), .val (.int bj5), .val (.ref b5), .val (.int x1), .unset] [])) (fun t k => XS.ifNo X9.here hx rfl (hb hby at_50) rfl ((if0 _ _).trans (teq hk0_1).2) k) ?_
      refine own_st (T' := T9) (F' := (mkF m 54 #[.val (.int x0), .val (.int x1), .val (.int x2), .val (.int (x0 &&& (7 : Int32))), .val (.ref w_FRONT), .val (.int bj5), .val (.ref b5), .val (.int x1), .unset] [(.int x1)])) (fun t k => XS.iloadN X9.here hx rfl (hb hby at_53) rfl k) ?_
      refine own_st (T' := T9) (F' := (mkF m 56 #[.val (.int x0), .val (.int x1), .val (.int x2), .val (.int (x0 &&& (7 : Int32))), .val (.ref w_FRONT), .val (.int bj5), .val (.ref b5), .val (.int x1), .val (.int x1)] [])) (fun t k => XS.istore X9.here hx rfl (hb hby at_54) rfl (l' := #[.val (.int x0), .val (.int x1), .val (.int x2), .val (.int (x0 &&& (7 : Int32))), .val (.ref w_FRONT), .val (.int bj5), .val (.ref b5), .val (.int x1), .val (.int x1)]) rfl k) ?_
      refine own_st (T' := T9) (F' := (mkF m 64 #[.val (.int x0), .val (.int x1), .val (.int x2), .val (.int (x0 &&& (7 : Int32))), .val (.ref w_FRONT), .val (.int bj5), .val (.ref b5), .val (.int x1), .val (.int x1)] [])) (fun t k => XS.goto X9.here hx rfl (pc0 := 56) (pc' := 64) rfl (hb hby at_56) (by decide) (by decide) k) ?_
      refine own_st (T' := T9) (F' := (mkF m 66 #[.val (.int x0), .val (.int x1), .val (.int x2), .val (.int (x0 &&& (7 : Int32))), .val (.ref w_FRONT), .val (.int bj5), .val (.ref b5), .val (.int x1), .val (.int x1)] [(.int x1)])) (fun t k => XS.iload X9.here hx rfl (hb hby at_64) rfl k) ?_
      refine own_st (T' := T9) (F' := (mkF m 68 #[.val (.int x0), .val (.int x1), .val (.int x2), .val (.int (x0 &&& (7 : Int32))), .val (.ref w_FRONT), .val (.int bj5), .val (.ref b5), .val (.int x1), .val (.int x1)] [(.int x1), (.int x1)])) (fun t k => XS.iload X9.here hx rfl (hb hby at_66) rfl k) ?_
      refine own_st (T' := T9) (F' := (mkF m 71 #[.val (.int x0), .val (.int x1), .val (.int x2), .val (.int (x0 &&& (7 : Int32))), .val (.ref w_FRONT), .val (.int bj5), .val (.ref b5), .val (.int x1), .val (.int x1)] [])) (fun t k => XS.icmpNo X9.here hx rfl (hb hby at_68) rfl (teq rfl).2 k) ?_
      refine own_st (T' := T9) (F' := (mkF m 73 #[.val (.int x0), .val (.int x1), .val (.int x2), .val (.int (x0 &&& (7 : Int32))), .val (.ref w_FRONT), .val (.int bj5), .val (.ref b5), .val (.int x1), .val (.int x1)] [(.ref b5)])) (fun t k => XS.aload X9.here hx rfl (hb hby at_71) rfl rfl k) ?_
      obtain ⟨cq10, kq10, q10a, q10b, q10c⟩ := isOf hZ e9 E_b5
      obtain ⟨v10, _, ⟨T10, L10, k10, n10⟩, -, X10, ⟨Lc10, hQ10, l10, y10, z10⟩, st10⟩ := X9.virtualBack hx (y := (⟨"com/example/catchline/catchline/Node", "line", "()I"⟩ : MethodName)) (z := (⟨"com/example/catchline/catchline/Node", "line", "()I"⟩ : MethodName)) hown (mvT hZ (hw _ (List.mem_of_getElem? (i := 127) rfl))) (mvT hZ (hw _ (List.mem_of_getElem? (i := 128) rfl))) (notFace_of_selects (args := #[]) (mvT hZ (hw _ (List.mem_of_getElem? (i := 130) rfl)))) (mvT hZ (hw _ (List.mem_of_getElem? (i := 130) rfl))) (mvT hZ (hw _ (List.mem_of_getElem? (i := 129) rfl))) (by decide) (backOf (W := 0) (rm13 l Z a0 CX [] b5 x1 T8.heap O F_line_b5) hZ (hw _ (List.mem_of_getElem? (i := 131) rfl)) (hw _ (List.mem_of_getElem? (i := 9) rfl)) (by decide) (by decide)) q10a q10c (g := (mkF m 73 #[.val (.int x0), .val (.int x1), .val (.int x2), .val (.int (x0 &&& (7 : Int32))), .val (.ref w_FRONT), .val (.int bj5), .val (.ref b5), .val (.int x1), .val (.int x1)] [(.ref b5)])) rfl (by rw [hml]; rfl) (Steps.refl _) (argsL := []) (rest := []) (lenOf pd_7 rfl) rfl (by show 2 * 0 + _ ≤ _; exact Nat.le_of_eq rfl) (hb hby at_73) (fun _ _ => ⟨rfl, e9, (by decide : 11 + 0 ≤ _), (by decide : 38 + 0 ≤ _)⟩)
      dsimp only [Pt.U, Pt.locs, Pt.cells, Pt.slots] at X10 l10 y10 z10 st10 hQ10
      subst l10 y10 z10
      obtain ⟨rfl, N10q, e10⟩ := hQ10
      have N := Fr.app N N10q
      refine own_tr (T' := T10) (F' := (mkF m 76 #[.val (.int x0), .val (.int x1), .val (.int x2), .val (.int (x0 &&& (7 : Int32))), .val (.ref w_FRONT), .val (.int bj5), .val (.ref b5), .val (.int x1), .val (.int x1)] [(.int x1)])) st10 ?_
      refine own_st (T' := T10) (F' := (mkF m 77 #[.val (.int x0), .val (.int x1), .val (.int x2), .val (.int (x0 &&& (7 : Int32))), .val (.ref w_FRONT), .val (.int bj5), .val (.ref b5), .val (.int x1), .val (.int x1)] [(.int x1), (.int x1)])) (fun t k => XS.iloadN X10.here hx rfl (hb hby at_76) rfl k) ?_
      refine own_st (T' := T10) (F' := (mkF m 80 #[.val (.int x0), .val (.int x1), .val (.int x2), .val (.int (x0 &&& (7 : Int32))), .val (.ref w_FRONT), .val (.int bj5), .val (.ref b5), .val (.int x1), .val (.int x1)] [])) (fun t k => XS.icmpNo X10.here hx rfl (hb hby at_77) rfl (teq rfl).2 k) ?_
      refine own_st (T' := T10) (F' := (mkF m 82 #[.val (.int x0), .val (.int x1), .val (.int x2), .val (.int (x0 &&& (7 : Int32))), .val (.ref w_FRONT), .val (.int bj5), .val (.ref b5), .val (.int x1), .val (.int x1)] [(.ref b5)])) (fun t k => XS.aload X10.here hx rfl (hb hby at_80) rfl rfl k) ?_
      obtain ⟨cq11, kq11, q11a, q11b, q11c⟩ := isOf hZ e10 E_b5
      obtain ⟨v11, _, ⟨T11, L11, k11, n11⟩, -, X11, ⟨Lc11, hQ11, l11, y11, z11⟩, st11⟩ := X10.virtualBack hx (y := (⟨"com/example/catchline/catchline/Node", "kind", "()Lcom/example/catchline/catchline/Kind;"⟩ : MethodName)) (z := (⟨"com/example/catchline/catchline/Node", "kind", "()Lcom/example/catchline/catchline/Kind;"⟩ : MethodName)) hown (mvT hZ (hw _ (List.mem_of_getElem? (i := 132) rfl))) (mvT hZ (hw _ (List.mem_of_getElem? (i := 133) rfl))) (notFace_of_selects (args := #[]) (mvT hZ (hw _ (List.mem_of_getElem? (i := 135) rfl)))) (mvT hZ (hw _ (List.mem_of_getElem? (i := 135) rfl))) (mvT hZ (hw _ (List.mem_of_getElem? (i := 134) rfl))) (by decide) (backOf (W := 0) (rm14 l Z a0 CX [] b5 (.ref w_FRONT) rfl T8.heap O F_kind_b5) hZ (hw _ (List.mem_of_getElem? (i := 136) rfl)) (hw _ (List.mem_of_getElem? (i := 9) rfl)) (by decide) (by decide)) q11a q11c (g := (mkF m 82 #[.val (.int x0), .val (.int x1), .val (.int x2), .val (.int (x0 &&& (7 : Int32))), .val (.ref w_FRONT), .val (.int bj5), .val (.ref b5), .val (.int x1), .val (.int x1)] [(.ref b5)])) rfl (by rw [hml]; rfl) (Steps.refl _) (argsL := []) (rest := []) (lenOf pd_8 rfl) rfl (by show 2 * 0 + _ ≤ _; exact Nat.le_of_eq rfl) (hb hby at_82) (fun _ _ => ⟨rfl, e10, (by decide : 11 + 0 ≤ _), (by decide : 38 + 0 ≤ _)⟩)
      dsimp only [Pt.U, Pt.locs, Pt.cells, Pt.slots] at X11 l11 y11 z11 st11 hQ11
      subst l11 y11 z11
      obtain ⟨rfl, N11q, e11⟩ := hQ11
      have N := Fr.app N N11q
      refine own_tr (T' := T11) (F' := (mkF m 85 #[.val (.int x0), .val (.int x1), .val (.int x2), .val (.int (x0 &&& (7 : Int32))), .val (.ref w_FRONT), .val (.int bj5), .val (.ref b5), .val (.int x1), .val (.int x1)] [(.ref w_FRONT)])) st11 ?_
      refine own_st (T' := T11) (F' := (mkF m 87 #[.val (.int x0), .val (.int x1), .val (.int x2), .val (.int (x0 &&& (7 : Int32))), .val (.ref w_FRONT), .val (.int bj5), .val (.ref b5), .val (.int x1), .val (.int x1)] [(.ref w_FRONT), (.ref w_FRONT)])) (fun t k => XS.aload X11.here hx rfl (hb hby at_85) rfl rfl k) ?_
      refine own_st (T' := T11) (F' := (mkF m 90 #[.val (.int x0), .val (.int x1), .val (.int x2), .val (.int (x0 &&& (7 : Int32))), .val (.ref w_FRONT), .val (.int bj5), .val (.ref b5), .val (.int x1), .val (.int x1)] [])) (fun t k => Jvm.RoadKit.acmp (g := (mkF m 87 #[.val (.int x0), .val (.int x1), .val (.int x2), .val (.int (x0 &&& (7 : Int32))), .val (.ref w_FRONT), .val (.int bj5), .val (.ref b5), .val (.int x1), .val (.int x1)] [(.ref w_FRONT), (.ref w_FRONT)])) X11 hx rfl rfl rfl (pc0 := 87) (pc' := 90) (same := true) rfl (hb hby at_87) rfl (decide_eq_true rfl) (by decide) (by decide) k) ?_
      refine own_st (T' := T11) (F' := (mkF m 91 #[.val (.int x0), .val (.int x1), .val (.int x2), .val (.int (x0 &&& (7 : Int32))), .val (.ref w_FRONT), .val (.int bj5), .val (.ref b5), .val (.int x1), .val (.int x1)] [(.int (1 : Int32))])) (fun t k => XS.iconst X11.here hx rfl (hb hby at_90) k) ?_
      refine own_st (T' := T11) (F' := (mkF m 95 #[.val (.int x0), .val (.int x1), .val (.int x2), .val (.int (x0 &&& (7 : Int32))), .val (.ref w_FRONT), .val (.int bj5), .val (.ref b5), .val (.int x1), .val (.int x1)] [(.int (1 : Int32))])) (fun t k => XS.goto X11.here hx rfl (pc0 := 91) (pc' := 95) rfl (hb hby at_91) (by decide) (by decide) k) ?_
      exact own_retNW X11 hx (t := .boolean) Bd.returns (by simp) (by decide) hS (by rw [e11]; exact hk) (hb hby at_95) hlk (by show Q0 Z _ T11.heap _; rw [e11]; exact ⟨rfl, N⟩) (by decide) (by decide)
    refine own_st (T' := T2) (F' := (mkF m 12 #[.val (.int x0), .val (.int x1), .val (.int x2), .val (.int (x0 &&& (7 : Int32))), .val (.ref w_FRONT), .unset, .unset, .unset, .unset] [(.int x2)])) (fun t k => XS.iloadN X2.here hx rfl (hb hby at_11) rfl k) ?_
    refine own_st (T' := T2) (F' := (mkF m 13 #[.val (.int x0), .val (.int x1), .val (.int x2), .val (.int (x0 &&& (7 : Int32))), .val (.ref w_FRONT), .unset, .unset, .unset, .unset] [(.int (1 : Int32)), (.int x2)])) (fun t k => XS.iconst X2.here hx rfl (hb hby at_12) k) ?_
    refine own_st (T' := T2) (F' := (mkF m 14 #[.val (.int x0), .val (.int x1), .val (.int x2), .val (.int (x0 &&& (7 : Int32))), .val (.ref w_FRONT), .unset, .unset, .unset, .unset] [(.int (x2 &&& (1 : Int32)))])) (fun t k => XS.iand X2.here hx rfl (hb hby at_13) rfl k) ?_
    by_cases hc14_12 : (x2 &&& (1 : Int32)) = (0 : Int32)
    · refine own_st (T' := T2) (F' := (mkF m 21 #[.val (.int x0), .val (.int x1), .val (.int x2), .val (.int (x0 &&& (7 : Int32))), .val (.ref w_FRONT), .unset, .unset, .unset, .unset] [])) (fun t k => XS.ifYes X2.here hx rfl (pc0 := 14) (pc' := 21) rfl (hb hby at_14) rfl ((if0 _ _).trans (teq hc14_12).1) (by decide) (by decide) k) ?_
      refine own_st (T' := T2) (F' := (mkF m 22 #[.val (.int x0), .val (.int x1), .val (.int x2), .val (.int (x0 &&& (7 : Int32))), .val (.ref w_FRONT), .unset, .unset, .unset, .unset] [(.int (0 : Int32))])) (fun t k => XS.iconst X2.here hx rfl (hb hby at_21) k) ?_
      refine own_st (T' := T2) (F' := (mkF m 24 #[.val (.int x0), .val (.int x1), .val (.int x2), .val (.int (x0 &&& (7 : Int32))), .val (.ref w_FRONT), .val (.int (0 : Int32)), .unset, .unset, .unset] [])) (fun t k => XS.istore X2.here hx rfl (hb hby at_22) rfl (l' := #[.val (.int x0), .val (.int x1), .val (.int x2), .val (.int (x0 &&& (7 : Int32))), .val (.ref w_FRONT), .val (.int (0 : Int32)), .unset, .unset, .unset]) rfl k) ?_
      exact J24_3 _ _ X2 e2 N (0 : Int32) (by first | exact Or.inl rfl | exact Or.inr rfl)
    · refine own_st (T' := T2) (F' := (mkF m 17 #[.val (.int x0), .val (.int x1), .val (.int x2), .val (.int (x0 &&& (7 : Int32))), .val (.ref w_FRONT), .unset, .unset, .unset, .unset] [])) (fun t k => XS.ifNo X2.here hx rfl (hb hby at_14) rfl ((if0 _ _).trans (feq hc14_12).1) k) ?_
      refine own_st (T' := T2) (F' := (mkF m 18 #[.val (.int x0), .val (.int x1), .val (.int x2), .val (.int (x0 &&& (7 : Int32))), .val (.ref w_FRONT), .unset, .unset, .unset, .unset] [(.int (1 : Int32))])) (fun t k => XS.iconst X2.here hx rfl (hb hby at_17) k) ?_
      refine own_st (T' := T2) (F' := (mkF m 22 #[.val (.int x0), .val (.int x1), .val (.int x2), .val (.int (x0 &&& (7 : Int32))), .val (.ref w_FRONT), .unset, .unset, .unset, .unset] [(.int (1 : Int32))])) (fun t k => XS.goto X2.here hx rfl (pc0 := 18) (pc' := 22) rfl (hb hby at_18) (by decide) (by decide) k) ?_
      refine own_st (T' := T2) (F' := (mkF m 24 #[.val (.int x0), .val (.int x1), .val (.int x2), .val (.int (x0 &&& (7 : Int32))), .val (.ref w_FRONT), .val (.int (1 : Int32)), .unset, .unset, .unset] [])) (fun t k => XS.istore X2.here hx rfl (hb hby at_22) rfl (l' := #[.val (.int x0), .val (.int x1), .val (.int x2), .val (.int (x0 &&& (7 : Int32))), .val (.ref w_FRONT), .val (.int (1 : Int32)), .unset, .unset, .unset]) rfl k) ?_
      exact J24_3 _ _ X2 e2 N (1 : Int32) (by first | exact Or.inl rfl | exact Or.inr rfl)
  · refine own_st (T' := s₁) (F' := (mkF m 1 #[.val (.int x0), .val (.int x1), .val (.int x2), .unset, .unset, .unset, .unset, .unset, .unset] [(.int x0)])) (fun t k => XS.iloadN X0.here hx rfl (hb hby at_0) rfl k) ?_
    refine own_st (T' := s₁) (F' := (mkF m 3 #[.val (.int x0), .val (.int x1), .val (.int x2), .unset, .unset, .unset, .unset, .unset, .unset] [(.int (7 : Int32)), (.int x0)])) (fun t k => XS.bipush X0.here hx rfl (hb hby at_1) k) ?_
    refine own_st (T' := s₁) (F' := (mkF m 4 #[.val (.int x0), .val (.int x1), .val (.int x2), .unset, .unset, .unset, .unset, .unset, .unset] [(.int (x0 &&& (7 : Int32)))])) (fun t k => XS.iand X0.here hx rfl (hb hby at_3) rfl k) ?_
    refine own_st (T' := s₁) (F' := (mkF m 5 #[.val (.int x0), .val (.int x1), .val (.int x2), .val (.int (x0 &&& (7 : Int32))), .unset, .unset, .unset, .unset, .unset] [])) (fun t k => XS.istoreN X0.here hx rfl (hb hby at_4) rfl (l' := #[.val (.int x0), .val (.int x1), .val (.int x2), .val (.int (x0 &&& (7 : Int32))), .unset, .unset, .unset, .unset, .unset]) rfl k) ?_
    refine own_st (T' := s₁) (F' := (mkF m 6 #[.val (.int x0), .val (.int x1), .val (.int x2), .val (.int (x0 &&& (7 : Int32))), .unset, .unset, .unset, .unset, .unset] [(.int (x0 &&& (7 : Int32)))])) (fun t k => XS.iloadN X0.here hx rfl (hb hby at_5) rfl k) ?_
    obtain ⟨v13, _, ⟨T13, L13, k13, n13⟩, -, X13, ⟨Lc13, hQ13, l13, y13, z13⟩, st13⟩ := Jvm.LawKit.callS X0 hx (y := (⟨"com/example/catchline/catchline/NodeTextStartPinLaw", "kindOf", "(I)Lcom/example/catchline/catchline/Kind;"⟩ : MethodName)) hown (mvT hZ (hw _ (List.mem_of_getElem? (i := 0) rfl))) (mvT hZ (hw _ (List.mem_of_getElem? (i := 1) rfl))) (mvT hZ (hw _ (List.mem_of_getElem? (i := 2) rfl))) (mvT hZ (hw _ (List.mem_of_getElem? (i := 3) rfl))) (by decide) (backOf (W := 0) (rmK_N l Z a0 CX [] (x0 &&& (7 : Int32)) h0 O hk0_1) hZ (hw _ (List.mem_of_getElem? (i := 3) rfl)) (hw _ (List.mem_of_getElem? (i := 2) rfl)) (by decide) (by decide)) (g := (mkF m 6 #[.val (.int x0), .val (.int x1), .val (.int x2), .val (.int (x0 &&& (7 : Int32))), .unset, .unset, .unset, .unset, .unset] [(.int (x0 &&& (7 : Int32)))])) rfl (by rw [hml]; rfl) (argsL := [(.int (x0 &&& (7 : Int32)))]) (rest := []) (lenOf pd_5 rfl) rfl (by show 2 * 0 + _ ≤ _; exact Nat.le_of_eq rfl) (hb hby at_6) (fun _ _ => ⟨rfl, e0, (by decide : 0 + 0 ≤ _), (by decide : 0 + 0 ≤ _)⟩)
    dsimp only [Pt.U, Pt.locs, Pt.cells, Pt.slots] at X13 l13 y13 z13 st13 hQ13
    subst l13 y13 z13
    obtain ⟨r13, rfl, N13q, e13, hne13⟩ := hQ13
    have N := Fr.app N N13q
    refine own_st (T' := T13) (F' := (mkF m 9 #[.val (.int x0), .val (.int x1), .val (.int x2), .val (.int (x0 &&& (7 : Int32))), .unset, .unset, .unset, .unset, .unset] [(.ref r13)])) st13 ?_
    refine own_st (T' := T13) (F' := (mkF m 11 #[.val (.int x0), .val (.int x1), .val (.int x2), .val (.int (x0 &&& (7 : Int32))), .val (.ref r13), .unset, .unset, .unset, .unset] [])) (fun t k => XS.astore X13.here hx rfl (hb hby at_9) rfl rfl (l' := #[.val (.int x0), .val (.int x1), .val (.int x2), .val (.int (x0 &&& (7 : Int32))), .val (.ref r13), .unset, .unset, .unset, .unset]) rfl k) ?_
    have J24_14 : ∀ (T15 : State) (L15 : List Loc) (X15 : Stand p l e room_1 (s.setVm s.vm) m #[(.int x0), (.int x1), (.int x2)] below meth c T15 L15 0 0) (e15 : T15.heap = h0) (N : Fr Z.heap.size L15) (bj5 : Int32) (hbj5 : bj5 = 0 ∨ bj5 = 1), own_Done p.tables e below (own_RW (Q0 Z) s 24 1152) T15 (mkF m 24 #[.val (.int x0), .val (.int x1), .val (.int x2), .val (.int (x0 &&& (7 : Int32))), .val (.ref r13), .val (.int bj5), .unset, .unset, .unset] []) := by
      intro T15 L15 X15 e15 N bj5 hbj5
      obtain ⟨T16, h16, X16, e16, E16, A16, D16, U16, st16⟩ := newO X15 hx hZ hown (hw _ (List.mem_of_getElem? (i := 7) rfl)) (hw _ (List.mem_of_getElem? (i := 8) rfl)) (hw _ (List.mem_of_getElem? (i := 9) rfl)) e15 (g := (mkF m 24 #[.val (.int x0), .val (.int x1), .val (.int x2), .val (.int (x0 &&& (7 : Int32))), .val (.ref r13), .val (.int bj5), .unset, .unset, .unset] [])) rfl (hb hby at_24) (by decide) (by decide)
      obtain ⟨b16, g16⟩ : ∃ z, z = h0.size := ⟨_, rfl⟩
      rw [← g16] at A16 D16 U16 st16
      have g_b16 : Z.heap.size ≤ b16 := Nat.le_trans O.1 (Nat.le_of_eq g16.symm)
      have O := own_ext_trans O E16
      have hk := Nat.le_trans hk E16.1
      have E_b16 := A16
      have F_children_b16 : Fld Z h16 b16 "com/example/catchline/catchline/Node" "children" "Ljava/util/List;" .null := D16 (Or.inr (hw _ (List.mem_of_getElem? (i := 49) rfl))) (ty := (.object "java/util/List")) (by decide)
      have F_childrenView_b16 : Fld Z h16 b16 "com/example/catchline/catchline/Node" "childrenView" "Ljava/util/List;" .null := D16 (Or.inr (hw _ (List.mem_of_getElem? (i := 94) rfl))) (ty := (.object "java/util/List")) (by decide)
      have F_notes_b16 : Fld Z h16 b16 "com/example/catchline/catchline/Node" "notes" "Ljava/util/List;" .null := D16 (Or.inr (hw _ (List.mem_of_getElem? (i := 96) rfl))) (ty := (.object "java/util/List")) (by decide)
      have F_history_b16 : Fld Z h16 b16 "com/example/catchline/catchline/Node" "history" "Ljava/util/List;" .null := D16 (Or.inr (hw _ (List.mem_of_getElem? (i := 98) rfl))) (ty := (.object "java/util/List")) (by decide)
      have F_footnotes_b16 : Fld Z h16 b16 "com/example/catchline/catchline/Node" "footnotes" "Ljava/util/List;" .null := D16 (Or.inr (hw _ (List.mem_of_getElem? (i := 100) rfl))) (ty := (.object "java/util/List")) (by decide)
      have F_parts_b16 : Fld Z h16 b16 "com/example/catchline/catchline/Node" "parts" "Ljava/util/List;" .null := D16 (Or.inl (hw _ (List.mem_of_getElem? (i := 108) rfl))) (ty := (.object "java/util/List")) (by decide)
      have F_citations_b16 : Fld Z h16 b16 "com/example/catchline/catchline/Node" "citations" "Ljava/util/List;" .null := D16 (Or.inr (hw _ (List.mem_of_getElem? (i := 110) rfl))) (ty := (.object "java/util/List")) (by decide)
      have F_kind_b16 : Fld Z h16 b16 "com/example/catchline/catchline/Node" "kind" "Lcom/example/catchline/catchline/Kind;" .null := D16 (Or.inr (hw _ (List.mem_of_getElem? (i := 112) rfl))) (ty := (.object "com/example/catchline/catchline/Kind")) (by decide)
      have F_number_b16 : Fld Z h16 b16 "com/example/catchline/catchline/Node" "number" "Ljava/lang/String;" .null := D16 (Or.inr (hw _ (List.mem_of_getElem? (i := 114) rfl))) (ty := (.object "java/lang/String")) (by decide)
      have F_title_b16 : Fld Z h16 b16 "com/example/catchline/catchline/Node" "title" "Ljava/lang/String;" .null := D16 (Or.inr (hw _ (List.mem_of_getElem? (i := 116) rfl))) (ty := (.object "java/lang/String")) (by decide)
      have F_line_b16 : Fld Z h16 b16 "com/example/catchline/catchline/Node" "line" "I" (.int (0 : Int32)) := D16 (Or.inr (hw _ (List.mem_of_getElem? (i := 118) rfl))) (ty := .int) (by decide)
      have F_malformed_b16 : Fld Z h16 b16 "com/example/catchline/catchline/Node" "malformed" "Z" (.int (0 : Int32)) := D16 (Or.inr (hw _ (List.mem_of_getElem? (i := 120) rfl))) (ty := .boolean) (by decide)
      refine own_st (T' := T16) (F' := (mkF m 27 #[.val (.int x0), .val (.int x1), .val (.int x2), .val (.int (x0 &&& (7 : Int32))), .val (.ref r13), .val (.int bj5), .unset, .unset, .unset] [(.ref b16)])) st16 ?_
      refine own_st (T' := T16) (F' := (mkF m 28 #[.val (.int x0), .val (.int x1), .val (.int x2), .val (.int (x0 &&& (7 : Int32))), .val (.ref r13), .val (.int bj5), .unset, .unset, .unset] [(.ref b16), (.ref b16)])) (fun t k => XS.dup X16.here hx rfl (hb hby at_27) rfl rfl k) ?_
      refine own_st (T' := T16) (F' := (mkF m 30 #[.val (.int x0), .val (.int x1), .val (.int x2), .val (.int (x0 &&& (7 : Int32))), .val (.ref r13), .val (.int bj5), .unset, .unset, .unset] [(.ref r13), (.ref b16), (.ref b16)])) (fun t k => XS.aload X16.here hx rfl (hb hby at_28) rfl rfl k) ?_
      obtain ⟨a17, T17, h17, ks17, X17, e17, E17, hS, hk17, hZ, hown, st17⟩ := ldcS X16 hx hZ hown (hw _ (List.mem_of_getElem? (i := 10) rfl)) wS e16 hS hk (g := (mkF m 30 #[.val (.int x0), .val (.int x1), .val (.int x2), .val (.int (x0 &&& (7 : Int32))), .val (.ref r13), .val (.int bj5), .unset, .unset, .unset] [(.ref r13), (.ref b16), (.ref b16)])) rfl (hb hby at_30) (n := 0) (by first | decide | simp | rfl) (by first | decide | simp | rfl) (by decide) (by decide)
      have E_b16 := E_b16.ext E17
      have F_children_b16 := F_children_b16.ext E17
      have F_childrenView_b16 := F_childrenView_b16.ext E17
      have F_notes_b16 := F_notes_b16.ext E17
      have F_history_b16 := F_history_b16.ext E17
      have F_footnotes_b16 := F_footnotes_b16.ext E17
      have F_parts_b16 := F_parts_b16.ext E17
      have F_citations_b16 := F_citations_b16.ext E17
      have F_kind_b16 := F_kind_b16.ext E17
      have F_number_b16 := F_number_b16.ext E17
      have F_title_b16 := F_title_b16.ext E17
      have F_line_b16 := F_line_b16.ext E17
      have F_malformed_b16 := F_malformed_b16.ext E17
      have O := own_ext_trans O E17
      have hk := Nat.le_trans hk E17.1
      have hk := hk17
      refine own_st (T' := T17) (F' := (mkF m 32 #[.val (.int x0), .val (.int x1), .val (.int x2), .val (.int (x0 &&& (7 : Int32))), .val (.ref r13), .val (.int bj5), .unset, .unset, .unset] [(.ref a17), (.ref r13), (.ref b16), (.ref b16)])) st17 ?_
      obtain ⟨a18, T18, h18, ks18, X18, e18, E18, hS, hk18, hZ, hown, st18⟩ := ldcS X17 hx hZ hown (hw _ (List.mem_of_getElem? (i := 10) rfl)) wS e17 hS hk (g := (mkF m 32 #[.val (.int x0), .val (.int x1), .val (.int x2), .val (.int (x0 &&& (7 : Int32))), .val (.ref r13), .val (.int bj5), .unset, .unset, .unset] [(.ref a17), (.ref r13), (.ref b16), (.ref b16)])) rfl (hb hby at_32) (n := 0) (by first | decide | simp | rfl) (by first | decide | simp | rfl) (by decide) (by decide)
      have E_b16 := E_b16.ext E18
      have F_children_b16 := F_children_b16.ext E18
      have F_childrenView_b16 := F_childrenView_b16.ext E18
      have F_notes_b16 := F_notes_b16.ext E18
      have F_history_b16 := F_history_b16.ext E18
      have F_footnotes_b16 := F_footnotes_b16.ext E18
      have F_parts_b16 := F_parts_b16.ext E18
      have F_citations_b16 := F_citations_b16.ext E18
      have F_kind_b16 := F_kind_b16.ext E18
      have F_number_b16 := F_number_b16.ext E18
      have F_title_b16 := F_title_b16.ext E18
      have F_line_b16 := F_line_b16.ext E18
      have F_malformed_b16 := F_malformed_b16.ext E18
      have O := own_ext_trans O E18
      have hk := Nat.le_trans hk E18.1
      have hk := hk18
      refine own_st (T' := T18) (F' := (mkF m 34 #[.val (.int x0), .val (.int x1), .val (.int x2), .val (.int (x0 &&& (7 : Int32))), .val (.ref r13), .val (.int bj5), .unset, .unset, .unset] [(.ref a18), (.ref a17), (.ref r13), (.ref b16), (.ref b16)])) st18 ?_
      refine own_st (T' := T18) (F' := (mkF m 35 #[.val (.int x0), .val (.int x1), .val (.int x2), .val (.int (x0 &&& (7 : Int32))), .val (.ref r13), .val (.int bj5), .unset, .unset, .unset] [(.int x1), (.ref a18), (.ref a17), (.ref r13), (.ref b16), (.ref b16)])) (fun t k => XS.iloadN X18.here hx rfl (hb hby at_34) rfl k) ?_
      refine own_st (T' := T18) (F' := (mkF m 37 #[.val (.int x0), .val (.int x1), .val (.int x2), .val (.int (x0 &&& (7 : Int32))), .val (.ref r13), .val (.int bj5), .unset, .unset, .unset] [(.int bj5), (.int x1), (.ref a18), (.ref a17), (.ref r13), (.ref b16), (.ref b16)])) (fun t k => XS.iload X18.here hx rfl (hb hby at_35) rfl k) ?_
      obtain ⟨v19, _, ⟨T19, L19, k19, n19⟩, -, X19, ⟨Lc19, hQ19, l19, y19, z19⟩, st19⟩ := X18.specialBack hx (y := (⟨"com/example/catchline/catchline/Node", "<init>", "(Lcom/example/catchline/catchline/Kind;Ljava/lang/String;Ljava/lang/String;IZ)V"⟩ : MethodName)) rfl hown (mvT hZ (hw _ (List.mem_of_getElem? (i := 18) rfl))) (mvT hZ (hw _ (List.mem_of_getElem? (i := 19) rfl))) (mvT hZ (hw _ (List.mem_of_getElem? (i := 20) rfl))) (by decide) (backOf (W := 1) (rm2 l Z a0 CX [] b16 (.ref r13) rfl (.ref a17) rfl (.ref a18) rfl x1 bj5 hbj5 .null rfl .null rfl .null rfl .null rfl .null rfl .null rfl .null rfl .null rfl .null rfl .null rfl (0 : Int32) (0 : Int32) (Or.inl rfl) h18 O E_b16 g_b16 F_children_b16 F_childrenView_b16 F_notes_b16 F_history_b16 F_footnotes_b16 F_parts_b16 F_citations_b16 F_kind_b16 F_number_b16 F_title_b16 F_line_b16 F_malformed_b16) hZ (hw _ (List.mem_of_getElem? (i := 20) rfl)) (hw _ (List.mem_of_getElem? (i := 9) rfl)) (by decide) (by decide)) (g := (mkF m 37 #[.val (.int x0), .val (.int x1), .val (.int x2), .val (.int (x0 &&& (7 : Int32))), .val (.ref r13), .val (.int bj5), .unset, .unset, .unset] [(.int bj5), (.int x1), (.ref a18), (.ref a17), (.ref r13), (.ref b16), (.ref b16)])) rfl (by rw [hml]; rfl) (Steps.refl _) (a := b16) (argsL := [(.ref r13), (.ref a17), (.ref a18), (.int x1), (.int bj5)]) (rest := [(.ref b16)]) (lenOf pd_6 rfl) rfl (by show 2 * 0 + _ ≤ _; exact Nat.le_of_eq rfl) (hb hby at_37) (fun _ _ => ⟨rfl, e18, (by decide : 5 + 6 ≤ _), (by decide : 21 + 17 ≤ _)⟩)
      dsimp only [Pt.U, Pt.locs, Pt.cells, Pt.slots] at X19 l19 y19 z19 st19 hQ19
      subst l19 y19 z19
      obtain ⟨rfl, N19q, K19, F_kind_b16, F_line_b16⟩ := hQ19
      have N := Fr.app N N19q
      have E_b16 := E_b16.keep K19
      have O := own_O_keep O K19 (allS g_b16 all0)
      have hk := Nat.le_trans hk K19.1
      refine own_tr (T' := T19) (F' := (mkF m 40 #[.val (.int x0), .val (.int x1), .val (.int x2), .val (.int (x0 &&& (7 : Int32))), .val (.ref r13), .val (.int bj5), .unset, .unset, .unset] [(.ref b16)])) st19 ?_
      refine own_st (T' := T19) (F' := (mkF m 42 #[.val (.int x0), .val (.int x1), .val (.int x2), .val (.int (x0 &&& (7 : Int32))), .val (.ref r13), .val (.int bj5), .val (.ref b16), .unset, .unset] [])) (fun t k => XS.astore X19.here hx rfl (hb hby at_40) rfl rfl (l' := #[.val (.int x0), .val (.int x1), .val (.int x2), .val (.int (x0 &&& (7 : Int32))), .val (.ref r13), .val (.int bj5), .val (.ref b16), .unset, .unset]) rfl k) ?_
      refine own_st (T' := T19) (F' := (mkF m 44 #[.val (.int x0), .val (.int x1), .val (.int x2), .val (.int (x0 &&& (7 : Int32))), .val (.ref r13), .val (.int bj5), .val (.ref b16), .unset, .unset] [(.ref b16)])) (fun t k => XS.aload X19.here hx rfl (hb hby at_42) rfl rfl k) ?_
      obtain ⟨cq20, kq20, q20a, q20b, q20c⟩ := isOf hZ rfl E_b16
      obtain ⟨v20, _, ⟨T20, L20, k20, n20⟩, -, X20, ⟨Lc20, hQ20, l20, y20, z20⟩, st20⟩ := X19.virtualBack hx (y := (⟨"com/example/catchline/catchline/Node", "textStart", "()I"⟩ : MethodName)) (z := (⟨"com/example/catchline/catchline/Node", "textStart", "()I"⟩ : MethodName)) hown (mvT hZ (hw _ (List.mem_of_getElem? (i := 121) rfl))) (mvT hZ (hw _ (List.mem_of_getElem? (i := 122) rfl))) (notFace_of_selects (args := #[]) (mvT hZ (hw _ (List.mem_of_getElem? (i := 124) rfl)))) (mvT hZ (hw _ (List.mem_of_getElem? (i := 124) rfl))) (mvT hZ (hw _ (List.mem_of_getElem? (i := 123) rfl))) (by decide) (backOf (W := 0) (rmT_N l Z a0 CX [] b16 r13 x1 T19.heap O F_kind_b16 F_line_b16 hne13) hZ (hw _ (List.mem_of_getElem? (i := 125) rfl)) (hw _ (List.mem_of_getElem? (i := 9) rfl)) (by decide) (by decide)) q20a q20c (g := (mkF m 44 #[.val (.int x0), .val (.int x1), .val (.int x2), .val (.int (x0 &&& (7 : Int32))), .val (.ref r13), .val (.int bj5), .val (.ref b16), .unset, .unset] [(.ref b16)])) rfl (by rw [hml]; rfl) (Steps.refl _) (argsL := []) (rest := []) (lenOf pd_7 rfl) rfl (by show 2 * 0 + _ ≤ _; exact Nat.le_of_eq rfl) (hb hby at_44) (fun _ _ => ⟨rfl, rfl, (by decide : 11 + 0 ≤ _), (by decide : 38 + 0 ≤ _)⟩)
      dsimp only [Pt.U, Pt.locs, Pt.cells, Pt.slots] at X20 l20 y20 z20 st20 hQ20
      subst l20 y20 z20
      obtain ⟨rfl, N20q, e20⟩ := hQ20
      have N := Fr.app N N20q
      refine own_tr (T' := T20) (F' := (mkF m 47 #[.val (.int x0), .val (.int x1), .val (.int x2), .val (.int (x0 &&& (7 : Int32))), .val (.ref r13), .val (.int bj5), .val (.ref b16), .unset, .unset] [(.int (x1 + (1 : Int32)))])) st20 ?_
      refine own_st (T' := T20) (F' := (mkF m 49 #[.val (.int x0), .val (.int x1), .val (.int x2), .val (.int (x0 &&& (7 : Int32))), .val (.ref r13), .val (.int bj5), .val (.ref b16), .val (.int (x1 + (1 : Int32))), .unset] [])) (fun t k => XS.istore X20.here hx rfl (hb hby at_47) rfl (l' := #[.val (.int x0), .val (.int x1), .val (.int x2), .val (.int (x0 &&& (7 : Int32))), .val (.ref r13), .val (.int bj5), .val (.ref b16), .val (.int (x1 + (1 : Int32))), .unset]) rfl k) ?_
      refine own_st (T' := T20) (F' := (mkF m 50 #[.val (.int x0), .val (.int x1), .val (.int x2), .val (.int (x0 &&& (7 : Int32))), .val (.ref r13), .val (.int bj5), .val (.ref b16), .val (.int (x1 + (1 : Int32))), .unset] [(.int (x0 &&& (7 : Int32)))])) (fun t k => XS.iloadN X20.here hx rfl (hb hby at_49) rfl k) ?_
      refine own_st (T' := T20) (F' := (mkF m 59 #[.val (.int x0), .val (.int x1), .val (.int x2), .val (.int (x0 &&& (7 : Int32))), .val (.ref r13), .val (.int bj5), .val (.ref b16), .val (.int (x1 + (1 : Int32))), .unset] [])) (fun t k => XS.ifYes X20.here hx rfl (pc0 := 50) (pc' := 59) rfl (hb hby at_50) rfl ((if0 _ _).trans (feq hk0_1).2) (by decide) (by decide) k) ?_
      refine own_st (T' := T20) (F' := (mkF m 60 #[.val (.int x0), .val (.int x1), .val (.int x2), .val (.int (x0 &&& (7 : Int32))), .val (.ref r13), .val (.int bj5), .val (.ref b16), .val (.int (x1 + (1 : Int32))), .unset] [(.int x1)])) (fun t k => XS.iloadN X20.here hx rfl (hb hby at_59) rfl k) ?_
      refine own_st (T' := T20) (F' := (mkF m 61 #[.val (.int x0), .val (.int x1), .val (.int x2), .val (.int (x0 &&& (7 : Int32))), .val (.ref r13), .val (.int bj5), .val (.ref b16), .val (.int (x1 + (1 : Int32))), .unset] [(.int (1 : Int32)), (.int x1)])) (fun t k => XS.iconst X20.here hx rfl (hb hby at_60) k) ?_
      refine own_st (T' := T20) (F' := (mkF m 62 #[.val (.int x0), .val (.int x1), .val (.int x2), .val (.int (x0 &&& (7 : Int32))), .val (.ref r13), .val (.int bj5), .val (.ref b16), .val (.int (x1 + (1 : Int32))), .unset] [(.int (x1 + (1 : Int32)))])) (fun t k => XS.iadd X20.here hx rfl (hb hby at_61) rfl k) ?_
      refine own_st (T' := T20) (F' := (mkF m 64 #[.val (.int x0), .val (.int x1), .val (.int x2), .val (.int (x0 &&& (7 : Int32))), .val (.ref r13), .val (.int bj5), .val (.ref b16), .val (.int (x1 + (1 : Int32))), .val (.int (x1 + (1 : Int32)))] [])) (fun t k => XS.istore X20.here hx rfl (hb hby at_62) rfl (l' := #[.val (.int x0), .val (.int x1), .val (.int x2), .val (.int (x0 &&& (7 : Int32))), .val (.ref r13), .val (.int bj5), .val (.ref b16), .val (.int (x1 + (1 : Int32))), .val (.int (x1 + (1 : Int32)))]) rfl k) ?_
      refine own_st (T' := T20) (F' := (mkF m 66 #[.val (.int x0), .val (.int x1), .val (.int x2), .val (.int (x0 &&& (7 : Int32))), .val (.ref r13), .val (.int bj5), .val (.ref b16), .val (.int (x1 + (1 : Int32))), .val (.int (x1 + (1 : Int32)))] [(.int (x1 + (1 : Int32)))])) (fun t k => XS.iload X20.here hx rfl (hb hby at_64) rfl k) ?_
      refine own_st (T' := T20) (F' := (mkF m 68 #[.val (.int x0), .val (.int x1), .val (.int x2), .val (.int (x0 &&& (7 : Int32))), .val (.ref r13), .val (.int bj5), .val (.ref b16), .val (.int (x1 + (1 : Int32))), .val (.int (x1 + (1 : Int32)))] [(.int (x1 + (1 : Int32))), (.int (x1 + (1 : Int32)))])) (fun t k => XS.iload X20.here hx rfl (hb hby at_66) rfl k) ?_
      refine own_st (T' := T20) (F' := (mkF m 71 #[.val (.int x0), .val (.int x1), .val (.int x2), .val (.int (x0 &&& (7 : Int32))), .val (.ref r13), .val (.int bj5), .val (.ref b16), .val (.int (x1 + (1 : Int32))), .val (.int (x1 + (1 : Int32)))] [])) (fun t k => XS.icmpNo X20.here hx rfl (hb hby at_68) rfl (teq rfl).2 k) ?_
      refine own_st (T' := T20) (F' := (mkF m 73 #[.val (.int x0), .val (.int x1), .val (.int x2), .val (.int (x0 &&& (7 : Int32))), .val (.ref r13), .val (.int bj5), .val (.ref b16), .val (.int (x1 + (1 : Int32))), .val (.int (x1 + (1 : Int32)))] [(.ref b16)])) (fun t k => XS.aload X20.here hx rfl (hb hby at_71) rfl rfl k) ?_
      obtain ⟨cq21, kq21, q21a, q21b, q21c⟩ := isOf hZ e20 E_b16
      obtain ⟨v21, _, ⟨T21, L21, k21, n21⟩, -, X21, ⟨Lc21, hQ21, l21, y21, z21⟩, st21⟩ := X20.virtualBack hx (y := (⟨"com/example/catchline/catchline/Node", "line", "()I"⟩ : MethodName)) (z := (⟨"com/example/catchline/catchline/Node", "line", "()I"⟩ : MethodName)) hown (mvT hZ (hw _ (List.mem_of_getElem? (i := 127) rfl))) (mvT hZ (hw _ (List.mem_of_getElem? (i := 128) rfl))) (notFace_of_selects (args := #[]) (mvT hZ (hw _ (List.mem_of_getElem? (i := 130) rfl)))) (mvT hZ (hw _ (List.mem_of_getElem? (i := 130) rfl))) (mvT hZ (hw _ (List.mem_of_getElem? (i := 129) rfl))) (by decide) (backOf (W := 0) (rm13 l Z a0 CX [] b16 x1 T19.heap O F_line_b16) hZ (hw _ (List.mem_of_getElem? (i := 131) rfl)) (hw _ (List.mem_of_getElem? (i := 9) rfl)) (by decide) (by decide)) q21a q21c (g := (mkF m 73 #[.val (.int x0), .val (.int x1), .val (.int x2), .val (.int (x0 &&& (7 : Int32))), .val (.ref r13), .val (.int bj5), .val (.ref b16), .val (.int (x1 + (1 : Int32))), .val (.int (x1 + (1 : Int32)))] [(.ref b16)])) rfl (by rw [hml]; rfl) (Steps.refl _) (argsL := []) (rest := []) (lenOf pd_7 rfl) rfl (by show 2 * 0 + _ ≤ _; exact Nat.le_of_eq rfl) (hb hby at_73) (fun _ _ => ⟨rfl, e20, (by decide : 11 + 0 ≤ _), (by decide : 38 + 0 ≤ _)⟩)
      dsimp only [Pt.U, Pt.locs, Pt.cells, Pt.slots] at X21 l21 y21 z21 st21 hQ21
      subst l21 y21 z21
      obtain ⟨rfl, N21q, e21⟩ := hQ21
      have N := Fr.app N N21q
      refine own_tr (T' := T21) (F' := (mkF m 76 #[.val (.int x0), .val (.int x1), .val (.int x2), .val (.int (x0 &&& (7 : Int32))), .val (.ref r13), .val (.int bj5), .val (.ref b16), .val (.int (x1 + (1 : Int32))), .val (.int (x1 + (1 : Int32)))] [(.int x1)])) st21 ?_
      refine own_st (T' := T21) (F' := (mkF m 77 #[.val (.int x0), .val (.int x1), .val (.int x2), .val (.int (x0 &&& (7 : Int32))), .val (.ref r13), .val (.int bj5), .val (.ref b16), .val (.int (x1 + (1 : Int32))), .val (.int (x1 + (1 : Int32)))] [(.int x1), (.int x1)])) (fun t k => XS.iloadN X21.here hx rfl (hb hby at_76) rfl k) ?_
      refine own_st (T' := T21) (F' := (mkF m 80 #[.val (.int x0), .val (.int x1), .val (.int x2), .val (.int (x0 &&& (7 : Int32))), .val (.ref r13), .val (.int bj5), .val (.ref b16), .val (.int (x1 + (1 : Int32))), .val (.int (x1 + (1 : Int32)))] [])) (fun t k => XS.icmpNo X21.here hx rfl (hb hby at_77) rfl (teq rfl).2 k) ?_
      refine own_st (T' := T21) (F' := (mkF m 82 #[.val (.int x0), .val (.int x1), .val (.int x2), .val (.int (x0 &&& (7 : Int32))), .val (.ref r13), .val (.int bj5), .val (.ref b16), .val (.int (x1 + (1 : Int32))), .val (.int (x1 + (1 : Int32)))] [(.ref b16)])) (fun t k => XS.aload X21.here hx rfl (hb hby at_80) rfl rfl k) ?_
      obtain ⟨cq22, kq22, q22a, q22b, q22c⟩ := isOf hZ e21 E_b16
      obtain ⟨v22, _, ⟨T22, L22, k22, n22⟩, -, X22, ⟨Lc22, hQ22, l22, y22, z22⟩, st22⟩ := X21.virtualBack hx (y := (⟨"com/example/catchline/catchline/Node", "kind", "()Lcom/example/catchline/catchline/Kind;"⟩ : MethodName)) (z := (⟨"com/example/catchline/catchline/Node", "kind", "()Lcom/example/catchline/catchline/Kind;"⟩ : MethodName)) hown (mvT hZ (hw _ (List.mem_of_getElem? (i := 132) rfl))) (mvT hZ (hw _ (List.mem_of_getElem? (i := 133) rfl))) (notFace_of_selects (args := #[]) (mvT hZ (hw _ (List.mem_of_getElem? (i := 135) rfl)))) (mvT hZ (hw _ (List.mem_of_getElem? (i := 135) rfl))) (mvT hZ (hw _ (List.mem_of_getElem? (i := 134) rfl))) (by decide) (backOf (W := 0) (rm14 l Z a0 CX [] b16 (.ref r13) rfl T19.heap O F_kind_b16) hZ (hw _ (List.mem_of_getElem? (i := 136) rfl)) (hw _ (List.mem_of_getElem? (i := 9) rfl)) (by decide) (by decide)) q22a q22c (g := (mkF m 82 #[.val (.int x0), .val (.int x1), .val (.int x2), .val (.int (x0 &&& (7 : Int32))), .val (.ref r13), .val (.int bj5), .val (.ref b16), .val (.int (x1 + (1 : Int32))), .val (.int (x1 + (1 : Int32)))] [(.ref b16)])) rfl (by rw [hml]; rfl) (Steps.refl _) (argsL := []) (rest := []) (lenOf pd_8 rfl) rfl (by show 2 * 0 + _ ≤ _; exact Nat.le_of_eq rfl) (hb hby at_82) (fun _ _ => ⟨rfl, e21, (by decide : 11 + 0 ≤ _), (by decide : 38 + 0 ≤ _)⟩)
      dsimp only [Pt.U, Pt.locs, Pt.cells, Pt.slots] at X22 l22 y22 z22 st22 hQ22
      subst l22 y22 z22
      obtain ⟨rfl, N22q, e22⟩ := hQ22
      have N := Fr.app N N22q
      refine own_tr (T' := T22) (F' := (mkF m 85 #[.val (.int x0), .val (.int x1), .val (.int x2), .val (.int (x0 &&& (7 : Int32))), .val (.ref r13), .val (.int bj5), .val (.ref b16), .val (.int (x1 + (1 : Int32))), .val (.int (x1 + (1 : Int32)))] [(.ref r13)])) st22 ?_
      refine own_st (T' := T22) (F' := (mkF m 87 #[.val (.int x0), .val (.int x1), .val (.int x2), .val (.int (x0 &&& (7 : Int32))), .val (.ref r13), .val (.int bj5), .val (.ref b16), .val (.int (x1 + (1 : Int32))), .val (.int (x1 + (1 : Int32)))] [(.ref r13), (.ref r13)])) (fun t k => XS.aload X22.here hx rfl (hb hby at_85) rfl rfl k) ?_
      refine own_st (T' := T22) (F' := (mkF m 90 #[.val (.int x0), .val (.int x1), .val (.int x2), .val (.int (x0 &&& (7 : Int32))), .val (.ref r13), .val (.int bj5), .val (.ref b16), .val (.int (x1 + (1 : Int32))), .val (.int (x1 + (1 : Int32)))] [])) (fun t k => Jvm.RoadKit.acmp (g := (mkF m 87 #[.val (.int x0), .val (.int x1), .val (.int x2), .val (.int (x0 &&& (7 : Int32))), .val (.ref r13), .val (.int bj5), .val (.ref b16), .val (.int (x1 + (1 : Int32))), .val (.int (x1 + (1 : Int32)))] [(.ref r13), (.ref r13)])) X22 hx rfl rfl rfl (pc0 := 87) (pc' := 90) (same := true) rfl (hb hby at_87) rfl (decide_eq_true rfl) (by decide) (by decide) k) ?_
      refine own_st (T' := T22) (F' := (mkF m 91 #[.val (.int x0), .val (.int x1), .val (.int x2), .val (.int (x0 &&& (7 : Int32))), .val (.ref r13), .val (.int bj5), .val (.ref b16), .val (.int (x1 + (1 : Int32))), .val (.int (x1 + (1 : Int32)))] [(.int (1 : Int32))])) (fun t k => XS.iconst X22.here hx rfl (hb hby at_90) k) ?_
      refine own_st (T' := T22) (F' := (mkF m 95 #[.val (.int x0), .val (.int x1), .val (.int x2), .val (.int (x0 &&& (7 : Int32))), .val (.ref r13), .val (.int bj5), .val (.ref b16), .val (.int (x1 + (1 : Int32))), .val (.int (x1 + (1 : Int32)))] [(.int (1 : Int32))])) (fun t k => XS.goto X22.here hx rfl (pc0 := 91) (pc' := 95) rfl (hb hby at_91) (by decide) (by decide) k) ?_
      exact own_retNW X22 hx (t := .boolean) Bd.returns (by simp) (by decide) hS (by rw [e22]; exact hk) (hb hby at_95) hlk (by show Q0 Z _ T22.heap _; rw [e22]; exact ⟨rfl, N⟩) (by decide) (by decide)
    refine own_st (T' := T13) (F' := (mkF m 12 #[.val (.int x0), .val (.int x1), .val (.int x2), .val (.int (x0 &&& (7 : Int32))), .val (.ref r13), .unset, .unset, .unset, .unset] [(.int x2)])) (fun t k => XS.iloadN X13.here hx rfl (hb hby at_11) rfl k) ?_
    refine own_st (T' := T13) (F' := (mkF m 13 #[.val (.int x0), .val (.int x1), .val (.int x2), .val (.int (x0 &&& (7 : Int32))), .val (.ref r13), .unset, .unset, .unset, .unset] [(.int (1 : Int32)), (.int x2)])) (fun t k => XS.iconst X13.here hx rfl (hb hby at_12) k) ?_
    refine own_st (T' := T13) (F' := (mkF m 14 #[.val (.int x0), .val (.int x1), .val (.int x2), .val (.int (x0 &&& (7 : Int32))), .val (.ref r13), .unset, .unset, .unset, .unset] [(.int (x2 &&& (1 : Int32)))])) (fun t k => XS.iand X13.here hx rfl (hb hby at_13) rfl k) ?_
    by_cases hc14_23 : (x2 &&& (1 : Int32)) = (0 : Int32)
    · refine own_st (T' := T13) (F' := (mkF m 21 #[.val (.int x0), .val (.int x1), .val (.int x2), .val (.int (x0 &&& (7 : Int32))), .val (.ref r13), .unset, .unset, .unset, .unset] [])) (fun t k => XS.ifYes X13.here hx rfl (pc0 := 14) (pc' := 21) rfl (hb hby at_14) rfl ((if0 _ _).trans (teq hc14_23).1) (by decide) (by decide) k) ?_
      refine own_st (T' := T13) (F' := (mkF m 22 #[.val (.int x0), .val (.int x1), .val (.int x2), .val (.int (x0 &&& (7 : Int32))), .val (.ref r13), .unset, .unset, .unset, .unset] [(.int (0 : Int32))])) (fun t k => XS.iconst X13.here hx rfl (hb hby at_21) k) ?_
      refine own_st (T' := T13) (F' := (mkF m 24 #[.val (.int x0), .val (.int x1), .val (.int x2), .val (.int (x0 &&& (7 : Int32))), .val (.ref r13), .val (.int (0 : Int32)), .unset, .unset, .unset] [])) (fun t k => XS.istore X13.here hx rfl (hb hby at_22) rfl (l' := #[.val (.int x0), .val (.int x1), .val (.int x2), .val (.int (x0 &&& (7 : Int32))), .val (.ref r13), .val (.int (0 : Int32)), .unset, .unset, .unset]) rfl k) ?_
      exact J24_14 _ _ X13 e13 N (0 : Int32) (by first | exact Or.inl rfl | exact Or.inr rfl)
    · refine own_st (T' := T13) (F' := (mkF m 17 #[.val (.int x0), .val (.int x1), .val (.int x2), .val (.int (x0 &&& (7 : Int32))), .val (.ref r13), .unset, .unset, .unset, .unset] [])) (fun t k => XS.ifNo X13.here hx rfl (hb hby at_14) rfl ((if0 _ _).trans (feq hc14_23).1) k) ?_
      refine own_st (T' := T13) (F' := (mkF m 18 #[.val (.int x0), .val (.int x1), .val (.int x2), .val (.int (x0 &&& (7 : Int32))), .val (.ref r13), .unset, .unset, .unset, .unset] [(.int (1 : Int32))])) (fun t k => XS.iconst X13.here hx rfl (hb hby at_17) k) ?_
      refine own_st (T' := T13) (F' := (mkF m 22 #[.val (.int x0), .val (.int x1), .val (.int x2), .val (.int (x0 &&& (7 : Int32))), .val (.ref r13), .unset, .unset, .unset, .unset] [(.int (1 : Int32))])) (fun t k => XS.goto X13.here hx rfl (pc0 := 18) (pc' := 22) rfl (hb hby at_18) (by decide) (by decide) k) ?_
      refine own_st (T' := T13) (F' := (mkF m 24 #[.val (.int x0), .val (.int x1), .val (.int x2), .val (.int (x0 &&& (7 : Int32))), .val (.ref r13), .val (.int (1 : Int32)), .unset, .unset, .unset] [])) (fun t k => XS.istore X13.here hx rfl (hb hby at_22) rfl (l' := #[.val (.int x0), .val (.int x1), .val (.int x2), .val (.int (x0 &&& (7 : Int32))), .val (.ref r13), .val (.int (1 : Int32)), .unset, .unset, .unset]) rfl k) ?_
      exact J24_14 _ _ X13 e13 N (1 : Int32) (by first | exact Or.inl rfl | exact Or.inr rfl)
set_option maxRecDepth 65536 in
set_option maxHeartbeats 40000000 in
theorem comes_1 {Post : Tables → Env → Array Value → State → Outcome → State → Prop} (hpost : ∀ tb e args s v u, (limb_1_1.after args s (.returned v) u = true ∧ limb_1_2.after args s (.returned v) u = true ∧ True) → ReturnedEndW s (.returned v) u (Jvm.fieldLocs frame_1_writes args s ++ Jvm.arrayLocs frame_1_arrays args s ++ Jvm.staticLocs frame_1_statics s) 24 1152 → Post tb e args s (.returned v) u) :
    ArmFor flags0 classFile x code maxLocals ret World_1 tables_1 room_1 Calls_1 rest_1 Pre_1 Post := by
  intro l hfl _ _ p e ha hc hk s m args below hf hA hF happ hP
  obtain ⟨hcalls, hrest, hpre⟩ := hP
  obtain ⟨-, -, -, hnamed, -, -, -, hat⟩ := (Spec.applies_iff hf).mp happ
  obtain ⟨hg, hn⟩ := and_e (Cond.before_iff.mp (show (Jvm.Cond.and given_1 narrow_1).before args s = true from hpre))
  obtain ⟨g0, g1⟩ := and_e hg
  obtain ⟨g2, g3⟩ := and_e g1
  obtain ⟨g4, g5⟩ := and_e g3
  obtain ⟨w0, w1, w2, rfl⟩ : ∃ w0 w1 w2 : Value, args = #[w0, w1, w2] := by
    have hs : args.size = 3 := by simpa [Cond.value, given_1] using g0
    obtain ⟨L⟩ := args
    match L, hs with
    | [w0, w1, w2], _ => exact ⟨w0, w1, w2, rfl⟩
  have hw := fun d (hd : d ∈ tables_1) => atoms_spec (ws := Jvm.Cond.code x code maxLocals ret :: tables_1) hat d (List.mem_cons_of_mem _ hd)
  have hfit : Fit s := fun {y c} hc i hi => by
    obtain ⟨ha, rfl⟩ := Array.getElem?_eq_some_iff.mp hc
    have q := List.all_eq_true.mp ((Array.all_eq_true_iff_forall_mem.mp hF) _ (Array.getElem_mem ha)) i (List.mem_range.mpr hi)
    simpa [Array.getElem?_eq_getElem hi] using q
  obtain ⟨i0, ei0⟩ := is_v g2
  obtain rfl : w0 = (.int i0) := Option.some.inj ei0
  obtain ⟨i1, ei1⟩ := is_v g4
  obtain rfl : w1 = (.int i1) := Option.some.inj ei1
  obtain ⟨i2, ei2⟩ := is_v g5
  obtain rfl : w2 = (.int i2) := Option.some.inj ei2
  obtain ⟨n0a, n0b⟩ := and_e hn
  obtain ⟨n1a, n1b⟩ := and_e n0b
  obtain ⟨n2a, n2b⟩ := and_e n1b
  obtain ⟨n3a, n3b⟩ := and_e n2b
  obtain ⟨n4a, n4b⟩ := and_e n3b
  obtain ⟨n5a, n5b⟩ := and_e n4b
  obtain ⟨n6a, n6b⟩ := and_e n5b
  obtain ⟨n7a, n7b⟩ := and_e n6b
  obtain ⟨n8a, n8b⟩ := and_e n7b
  obtain ⟨n9a, n9b⟩ := and_e n8b
  obtain ⟨n10a, n10b⟩ := and_e n9b
  obtain ⟨n11a, n11b⟩ := and_e n10b
  obtain ⟨n12a, n12b⟩ := and_e n11b
  obtain ⟨n13a, n13b⟩ := and_e n12b
  obtain ⟨n14a, n14b⟩ := and_e n13b
  obtain ⟨w_FRONT, v_FRONT⟩ := exa_v n0a
  have E_FRONT := Exa.start v_FRONT n0a
  have S_FRONT := Sta.start v_FRONT (Or.inr ⟨(hw _ (List.mem_of_getElem? (i := 5) rfl)), (hw _ (List.mem_of_getElem? (i := 6) rfl))⟩)
  obtain ⟨w_PART, v_PART⟩ := exa_v n1a
  have E_PART := Exa.start v_PART n1a
  have S_PART := Sta.start v_PART (Or.inr ⟨(hw _ (List.mem_of_getElem? (i := 5) rfl)), (hw _ (List.mem_of_getElem? (i := 138) rfl))⟩)
  obtain ⟨w_DIVISION, v_DIVISION⟩ := exa_v n4a
  have E_DIVISION := Exa.start v_DIVISION n4a
  have S_DIVISION := Sta.start v_DIVISION (Or.inr ⟨(hw _ (List.mem_of_getElem? (i := 5) rfl)), (hw _ (List.mem_of_getElem? (i := 140) rfl))⟩)
  obtain ⟨w_BACK, v_BACK⟩ := exa_v n6a
  have E_BACK := Exa.start v_BACK n6a
  have S_BACK := Sta.start v_BACK (Or.inr ⟨(hw _ (List.mem_of_getElem? (i := 5) rfl)), (hw _ (List.mem_of_getElem? (i := 142) rfl))⟩)
  obtain ⟨w_CHAPTER, v_CHAPTER⟩ := exa_v n8a
  have E_CHAPTER := Exa.start v_CHAPTER n8a
  have S_CHAPTER := Sta.start v_CHAPTER (Or.inr ⟨(hw _ (List.mem_of_getElem? (i := 5) rfl)), (hw _ (List.mem_of_getElem? (i := 144) rfl))⟩)
  obtain ⟨w_ARTICLE, v_ARTICLE⟩ := exa_v n10a
  have E_ARTICLE := Exa.start v_ARTICLE n10a
  have S_ARTICLE := Sta.start v_ARTICLE (Or.inr ⟨(hw _ (List.mem_of_getElem? (i := 5) rfl)), (hw _ (List.mem_of_getElem? (i := 146) rfl))⟩)
  obtain ⟨w_SECTION, v_SECTION⟩ := exa_v n12a
  have E_SECTION := Exa.start v_SECTION n12a
  have S_SECTION := Sta.start v_SECTION (Or.inr ⟨(hw _ (List.mem_of_getElem? (i := 5) rfl)), (hw _ (List.mem_of_getElem? (i := 148) rfl))⟩)
  obtain ⟨w_RESERVED, v_RESERVED⟩ := exa_v n14a
  have E_RESERVED := Exa.start v_RESERVED n14a
  have S_RESERVED := Sta.start v_RESERVED (Or.inr ⟨(hw _ (List.mem_of_getElem? (i := 5) rfl)), (hw _ (List.mem_of_getElem? (i := 150) rfl))⟩)
  have O_PART := Fld.start (own_fld_int v_PART n2a)
  have O_FRONT := Fld.start (own_fld_int v_FRONT n3a)
  have O_DIVISION := Fld.start (own_fld_int v_DIVISION n5a)
  have O_BACK := Fld.start (own_fld_int v_BACK n7a)
  have O_CHAPTER := Fld.start (own_fld_int v_CHAPTER n9a)
  have O_ARTICLE := Fld.start (own_fld_int v_ARTICLE n11a)
  have O_SECTION := Fld.start (own_fld_int v_SECTION n13a)
  have O_RESERVED := Fld.start (own_fld_int v_RESERVED n14b)
  obtain ⟨hsets, hown0⟩ := atoms_of _ (rest_1_c_eq ▸ (show rest_1_c.before _ s = true from hrest))
  obtain ⟨w_dc, v_dc⟩ := arr_v (Cond.before_iff.mp (hsets _ (List.mem_of_getElem? (i := 6) rfl)))
  have S_dc := Sta.start v_dc (Or.inr ⟨(hw _ (List.mem_of_getElem? (i := 26) rfl)), (hsets _ (List.mem_of_getElem? (i := 2) rfl))⟩)
  obtain ⟨w_el, v_el⟩ := exa_v (Cond.before_iff.mp (hsets _ (List.mem_of_getElem? (i := 11) rfl)))
  have S_el := Sta.start v_el (Or.inl (hsets _ (List.mem_of_getElem? (i := 10) rfl)))
  obtain ⟨⟨c1, k1, mA, f1, f2, f3⟩, ⟨c2, k2, mL, f4, f5, f6⟩, ⟨c3, k3, mR, f7, f8, f9⟩, -⟩ := hcalls
  have MmA : own_Mir s "java/util/ArrayList" mA := ⟨c1, k1, f1, f2, f3.1⟩
  have MmL : own_Mir s "java/util/Collections$UnmodifiableList" mL := ⟨c2, k2, f4, f5, f6.1⟩
  have MmR : own_Mir s "java/util/Collections$UnmodifiableRandomAccessList" mR := ⟨c3, k3, f7, f8, f9.1⟩
  have CX : Ctx s _ w_FRONT w_PART w_DIVISION w_BACK w_CHAPTER w_ARTICLE w_SECTION w_RESERVED w_dc w_el mA mL mR := ⟨hw, S_FRONT, E_FRONT, S_PART, E_PART, S_DIVISION, E_DIVISION, S_BACK, E_BACK, S_CHAPTER, E_CHAPTER, S_ARTICLE, E_ARTICLE, S_SECTION, E_SECTION, S_RESERVED, E_RESERVED, O_PART, O_FRONT, O_DIVISION, O_BACK, O_CHAPTER, O_ARTICLE, O_SECTION, O_RESERVED, S_dc, S_el, MmA, MmL, MmR, trivial⟩
  obtain ⟨n, o, h1, h2, h3, _, L, rfl, ⟨rfl, N⟩, hq⟩ := rm0 l s _ CX tables_1 i0 i1 i2 s.heap (own_ext_refl _)  p e ha hc hk s m _ below hf ((Spec.applies_iff_loose hf).mp happ).1 ⟨rfl, State.Warmed39.refl s, rfl⟩ trivial
  refine ⟨n, _, h1, h2, h3, hpost _ _ _ _ _ _ ⟨Cond.after_iff.mpr rfl, Cond.after_iff.mpr (eq_i res_at (Term.int_eval (1)) rfl), trivial⟩ ⟨hq.1, hq.2.1, hq.2.2.1, (hq.2.2.2.sift fun y hy => Or.inr (N y hy)).mono (by decide) (by decide)⟩⟩
theorem main_1_1 : Claimed_1_1 := comes_1 fun _ _ _ _ _ _ h hF => ⟨h.1, hF⟩
theorem main_1_2 : Claimed_1_2 := comes_1 fun _ _ _ _ _ _ h hF => ⟨h.2.1, hF⟩
end Jvm.Pilot.@@N@@
namespace Jvm.Pilot.@@N@@
open Jvm Jvm.ClassFile Sem Op Lib Jvm.Free Jvm.Stand Jvm.Pilot.@@N@@.Jvm.D
/-! MADE BY PROGRAM (witnessworld.py) out of the Statement's table words and the real class files: 34 classes; the members and pool entries that the words name. The judged class is class 1, her method 2. -/
namespace start1
open Jvm.ClassFile
def u (s : String) : CpInfo := .utf8 (stringToUtf16 s)
/-- a pool by its gaps: so many unusable entries, then the entry; so many at the end -/
def gap : Nat → List CpInfo → List CpInfo
  | 0, r => r
  | n + 1, r => .unusable :: gap n r
def poolList (es : List (Nat × CpInfo)) (last : Nat) : List CpInfo := es.foldr (fun e r => gap e.1 (e.2 :: r)) (gap last [])
def pool (es : List (Nat × CpInfo)) (last : Nat) : Array CpInfo := ⟨poolList es last⟩
def fileOf (pool : Array CpInfo) (this : Nat) (attrs : Array Attribute := #[]) (ms : Array MethodInfo := #[]) (fl : Nat := 33) (sup : Nat := 0) (ifs : Array Nat := #[]) (fds : Array FieldInfo := #[]) : ClassFile where
  minorVersion := 0
  majorVersion := 65
  constantPool := pool
  accessFlags := fl
  thisClass := this
  superClass := sup
  interfaces := ifs
  fields := fds
  methods := ms
  attributes := attrs
def plain (name : String) (sup : Option ClassId) : Class where
  name := name
  kind := .ordinary
  loader := none
  accessFlags := 33
  super := sup
  interfaces := #[]
  cf := none
  fields := #[]
  methods := #[]
  instanceTypes := #[]
  staticTypes := #[]
  resolved := #[]
  callSites := []
  init := .initialized
  statics := none
  mirror := none

def pool0 : Array CpInfo := pool [(5, u "<init>"), (0, u "()V"), (1, .class_ 10), (1, u "java/lang/Object"), (0, u "getClass"), (0, u "()Ljava/lang/Class;")] 111

def k0c0 : Code := { maxStack := 0, maxLocals := 1, code := object_method_1_code, exceptionTable := #[], attributes := #[] }
def k0m0 : Method := { name := "<init>", desc := "()V", sig := { parameters := [], returnType := none }, accessFlags := 1, code := some k0c0 }
def k0m1 : Method := { name := "getClass", desc := "()Ljava/lang/Class;", sig := { parameters := [], returnType := some (.object "java/lang/Class") }, accessFlags := 273, code := none }
/-- java/lang/Object -/
def k0 : Class := { plain "java/lang/Object" none with
  accessFlags := 33
  interfaces := #[]
  cf := some (fileOf pool0 8 #[] #[{ accessFlags := 1, nameIndex := 5, descriptorIndex := 6, attributes := #[] }, { accessFlags := 273, nameIndex := 11, descriptorIndex := 12, attributes := #[] }] 33 0 #[] #[])
  fields := #[]
  methods := #[k0m0, k0m1]
  instanceTypes := #[]
  staticTypes := #[]
  resolved := Array.replicate 124 none
  statics := none }

def pool1 : Array CpInfo := pool [(2, .class_ 4), (1, u "java/lang/Object"), (0, u "<init>"), (0, u "()V"), (0, .fieldref 8 9), (0, .class_ 10), (0, .nameAndType 11 12), (0, u "com/example/catchline/catchline/Kind"), (0, u "FRONT"), (0, u "Lcom/example/catchline/catchline/Kind;"), (0, .fieldref 8 14), (0, .nameAndType 15 12), (0, u "PART"), (0, .fieldref 8 17), (0, .nameAndType 18 12), (0, u "CHAPTER"), (0, .fieldref 8 20), (0, .nameAndType 21 12), (0, u "ARTICLE"), (0, .fieldref 8 23), (0, .nameAndType 24 12), (0, u "DIVISION"), (0, .fieldref 8 26), (0, .nameAndType 27 12), (0, u "SECTION"), (0, .fieldref 8 29), (0, .nameAndType 30 12), (0, u "RESERVED"), (0, .fieldref 8 32), (0, .nameAndType 33 12), (0, u "BACK"), (0, .methodref 35 36), (0, .class_ 37), (0, .nameAndType 38 39), (0, u "com/example/catchline/catchline/NodeTextStartPinLaw"), (0, u "kindOf"), (0, u "(I)Lcom/example/catchline/catchline/Kind;"), (0, .class_ 41), (0, u "com/example/catchline/catchline/Node"), (0, .string 43), (0, u ""), (0, .methodref 40 45), (0, .nameAndType 5 46), (0, u "(Lcom/example/catchline/catchline/Kind;Ljava/lang/String;Ljava/lang/String;IZ)V"), (0, .methodref 40 48), (0, .nameAndType 49 50), (0, u "textStart"), (0, u "()I"), (0, .methodref 40 52), (0, .nameAndType 53 50), (0, u "line"), (0, .methodref 40 55), (0, .nameAndType 56 57), (0, u "kind"), (0, u "()Lcom/example/catchline/catchline/Kind;"), (3, u "law"), (0, u "(III)Z")] 2

def k1m0 : Method := { name := "<init>", desc := "()V", sig := { parameters := [], returnType := none }, accessFlags := 2, code := none }
def k1c1 : Code := { maxStack := 2, maxLocals := 1, code := method_2_code, exceptionTable := #[], attributes := #[] }
def k1m1 : Method := { name := "kindOf", desc := "(I)Lcom/example/catchline/catchline/Kind;", sig := { parameters := [.int], returnType := some (.object "com/example/catchline/catchline/Kind") }, accessFlags := 10, code := some k1c1 }
def k1c2 : Code := { maxStack := 7, maxLocals := 9, code := code, exceptionTable := #[], attributes := #[] }
def k1m2 : Method := { name := "law", desc := "(III)Z", sig := { parameters := [.int, .int, .int], returnType := some .boolean }, accessFlags := 9, code := some k1c2 }
/-- com/example/catchline/catchline/NodeTextStartPinLaw -/
def k1 : Class := { plain "com/example/catchline/catchline/NodeTextStartPinLaw" (some 0) with
  accessFlags := 49
  interfaces := #[]
  cf := some (fileOf pool1 35 #[] #[{ accessFlags := 2, nameIndex := 5, descriptorIndex := 6, attributes := #[] }, { accessFlags := 10, nameIndex := 38, descriptorIndex := 39, attributes := #[] }, { accessFlags := 9, nameIndex := 61, descriptorIndex := 62, attributes := #[] }] 49 2 #[] #[])
  fields := #[]
  methods := #[k1m0, k1m1, k1m2]
  instanceTypes := #[]
  staticTypes := #[]
  resolved := Array.replicate 65 none
  statics := none }

def pool2 : Array CpInfo := pool [(1, .class_ 2), (0, u "java/lang/constant/Constable"), (0, .class_ 4), (0, u "java/lang/Object")] 6

/-- java/lang/constant/Constable -/
def k2 : Class := { plain "java/lang/constant/Constable" (some 0) with
  accessFlags := 1537
  interfaces := #[]
  cf := some (fileOf pool2 1 #[] #[] 1537 3 #[] #[])
  fields := #[]
  methods := #[]
  instanceTypes := #[]
  staticTypes := #[]
  resolved := Array.replicate 11 none
  statics := none }

def pool3 : Array CpInfo := pool [(1, .class_ 2), (0, u "java/lang/Comparable"), (0, .class_ 4), (0, u "java/lang/Object")] 7

/-- java/lang/Comparable -/
def k3 : Class := { plain "java/lang/Comparable" (some 0) with
  accessFlags := 1537
  interfaces := #[]
  cf := some (fileOf pool3 1 #[] #[] 1537 3 #[] #[])
  fields := #[]
  methods := #[]
  instanceTypes := #[]
  staticTypes := #[]
  resolved := Array.replicate 12 none
  statics := none }

def pool4 : Array CpInfo := pool [(1, .class_ 2), (0, u "java/io/Serializable"), (0, .class_ 4), (0, u "java/lang/Object")] 2

/-- java/io/Serializable -/
def k4 : Class := { plain "java/io/Serializable" (some 0) with
  accessFlags := 1537
  interfaces := #[]
  cf := some (fileOf pool4 1 #[] #[] 1537 3 #[] #[])
  fields := #[]
  methods := #[]
  instanceTypes := #[]
  staticTypes := #[]
  resolved := Array.replicate 7 none
  statics := none }

def pool5 : Array CpInfo := pool [(2, .class_ 4), (1, u "java/lang/Enum"), (0, u "name"), (0, u "Ljava/lang/String;"), (2, u "ordinal"), (0, u "I"), (1, .class_ 14), (1, u "java/lang/Object"), (4, u "hash"), (86, .class_ 108), (1, u "java/lang/Enum$EnumDesc"), (2, .class_ 112), (0, u "java/lang/constant/Constable"), (0, .class_ 114), (0, u "java/lang/Comparable"), (0, .class_ 116), (0, u "java/io/Serializable")] 87

/-- java/lang/Enum -/
def k5 : Class := { plain "java/lang/Enum" (some 0) with
  accessFlags := 1057
  interfaces := #[2, 3, 4]
  cf := some (fileOf pool5 2 #[.nestMembers #[106]] #[] 1057 12 #[111, 113, 115] #[{ accessFlags := 18, nameIndex := 5, descriptorIndex := 6, attributes := #[] }, { accessFlags := 18, nameIndex := 9, descriptorIndex := 10, attributes := #[] }, { accessFlags := 2, nameIndex := 19, descriptorIndex := 10, attributes := #[] }])
  fields := #[{ name := "name", type := (.object "java/lang/String"), accessFlags := 18, slot := 0, constantValue := 0 }, { name := "ordinal", type := .int, accessFlags := 18, slot := 1, constantValue := 0 }, { name := "hash", type := .int, accessFlags := 2, slot := 2, constantValue := 0 }]
  methods := #[]
  instanceTypes := #[(.object "java/lang/String"), .int, .int]
  staticTypes := #[]
  resolved := Array.replicate 204 none
  statics := none }

def pool6 : Array CpInfo := pool [(1, .class_ 2), (0, u "com/example/catchline/catchline/Kind"), (2, u "FRONT"), (0, u "Lcom/example/catchline/catchline/Kind;"), (2, u "PART"), (2, u "CHAPTER"), (2, u "ARTICLE"), (2, u "DIVISION"), (2, u "SECTION"), (2, u "RESERVED"), (2, u "BACK"), (2, u "$VALUES"), (0, u "[Lcom/example/catchline/catchline/Kind;"), (6, .class_ 40), (1, u "java/lang/Enum")] 50

/-- com/example/catchline/catchline/Kind -/
def k6 : Class := { plain "com/example/catchline/catchline/Kind" (some 5) with
  accessFlags := 16433
  interfaces := #[]
  cf := some (fileOf pool6 1 #[] #[] 16433 38 #[] #[{ accessFlags := 16409, nameIndex := 5, descriptorIndex := 6, attributes := #[] }, { accessFlags := 16409, nameIndex := 9, descriptorIndex := 6, attributes := #[] }, { accessFlags := 16409, nameIndex := 12, descriptorIndex := 6, attributes := #[] }, { accessFlags := 16409, nameIndex := 15, descriptorIndex := 6, attributes := #[] }, { accessFlags := 16409, nameIndex := 18, descriptorIndex := 6, attributes := #[] }, { accessFlags := 16409, nameIndex := 21, descriptorIndex := 6, attributes := #[] }, { accessFlags := 16409, nameIndex := 24, descriptorIndex := 6, attributes := #[] }, { accessFlags := 16409, nameIndex := 27, descriptorIndex := 6, attributes := #[] }, { accessFlags := 4122, nameIndex := 30, descriptorIndex := 31, attributes := #[] }])
  fields := #[{ name := "FRONT", type := (.object "com/example/catchline/catchline/Kind"), accessFlags := 16409, slot := 0, constantValue := 0 }, { name := "PART", type := (.object "com/example/catchline/catchline/Kind"), accessFlags := 16409, slot := 1, constantValue := 0 }, { name := "CHAPTER", type := (.object "com/example/catchline/catchline/Kind"), accessFlags := 16409, slot := 2, constantValue := 0 }, { name := "ARTICLE", type := (.object "com/example/catchline/catchline/Kind"), accessFlags := 16409, slot := 3, constantValue := 0 }, { name := "DIVISION", type := (.object "com/example/catchline/catchline/Kind"), accessFlags := 16409, slot := 4, constantValue := 0 }, { name := "SECTION", type := (.object "com/example/catchline/catchline/Kind"), accessFlags := 16409, slot := 5, constantValue := 0 }, { name := "RESERVED", type := (.object "com/example/catchline/catchline/Kind"), accessFlags := 16409, slot := 6, constantValue := 0 }, { name := "BACK", type := (.object "com/example/catchline/catchline/Kind"), accessFlags := 16409, slot := 7, constantValue := 0 }, { name := "$VALUES", type := (.array (.object "com/example/catchline/catchline/Kind")), accessFlags := 4122, slot := 8, constantValue := 0 }]
  methods := #[]
  instanceTypes := #[(.object "java/lang/String"), .int, .int]
  staticTypes := #[(.object "com/example/catchline/catchline/Kind"), (.object "com/example/catchline/catchline/Kind"), (.object "com/example/catchline/catchline/Kind"), (.object "com/example/catchline/catchline/Kind"), (.object "com/example/catchline/catchline/Kind"), (.object "com/example/catchline/catchline/Kind"), (.object "com/example/catchline/catchline/Kind"), (.object "com/example/catchline/catchline/Kind"), (.array (.object "com/example/catchline/catchline/Kind"))]
  resolved := Array.replicate 91 none
  statics := some 0 }

def pool7 : Array CpInfo := pool [(1, .methodref 2 3), (0, .class_ 4), (0, .nameAndType 5 6), (0, u "java/lang/Object"), (0, u "<init>"), (0, u "()V"), (0, .class_ 8), (0, u "java/util/ArrayList"), (0, .methodref 7 3), (0, .fieldref 11 12), (0, .class_ 13), (0, .nameAndType 14 15), (0, u "com/example/catchline/catchline/Node"), (0, u "children"), (0, u "Ljava/util/List;"), (0, .methodref 17 18), (0, .class_ 19), (0, .nameAndType 20 21), (0, u "java/util/Collections"), (0, u "unmodifiableList"), (0, u "(Ljava/util/List;)Ljava/util/List;"), (0, .fieldref 11 23), (0, .nameAndType 24 15), (0, u "childrenView"), (0, .fieldref 11 26), (0, .nameAndType 27 15), (0, u "notes"), (0, .fieldref 11 29), (0, .nameAndType 30 15), (0, u "history"), (0, .fieldref 11 32), (0, .nameAndType 33 15), (0, u "footnotes"), (0, .interfaceMethodref 35 36), (0, .class_ 37), (0, .nameAndType 38 39), (0, u "java/util/List"), (0, u "of"), (0, u "()Ljava/util/List;"), (0, .fieldref 11 41), (0, .nameAndType 42 15), (0, u "parts"), (0, .fieldref 11 44), (0, .nameAndType 45 15), (0, u "citations"), (0, .fieldref 11 47), (0, .nameAndType 48 49), (0, u "kind"), (0, u "Lcom/example/catchline/catchline/Kind;"), (0, .fieldref 11 51), (0, .nameAndType 52 53), (0, u "number"), (0, u "Ljava/lang/String;"), (0, .fieldref 11 55), (0, .nameAndType 56 53), (0, u "title"), (0, .fieldref 11 58), (0, .nameAndType 59 60), (0, u "line"), (0, u "I"), (0, .fieldref 11 62), (0, .nameAndType 63 64), (0, u "malformed"), (0, u "Z"), (2, u "end"), (7, .fieldref 76 77), (0, .class_ 78), (0, .nameAndType 79 49), (0, u "com/example/catchline/catchline/Kind"), (0, u "FRONT"), (10, u "()I"), (39, u "(Lcom/example/catchline/catchline/Kind;Ljava/lang/String;Ljava/lang/String;IZ)V"), (2, u "()Lcom/example/catchline/catchline/Kind;"), (11, u "textStart")] 15

def k7c0 : Code := { maxStack := 3, maxLocals := 6, code := prog_43_method_1_code, exceptionTable := #[], attributes := #[] }
def k7m0 : Method := { name := "<init>", desc := "(Lcom/example/catchline/catchline/Kind;Ljava/lang/String;Ljava/lang/String;IZ)V", sig := { parameters := [(.object "com/example/catchline/catchline/Kind"), (.object "java/lang/String"), (.object "java/lang/String"), .int, .boolean], returnType := none }, accessFlags := 0, code := some k7c0 }
def k7c1 : Code := { maxStack := 1, maxLocals := 1, code := prog_43_method_2_code, exceptionTable := #[], attributes := #[] }
def k7m1 : Method := { name := "kind", desc := "()Lcom/example/catchline/catchline/Kind;", sig := { parameters := [], returnType := some (.object "com/example/catchline/catchline/Kind") }, accessFlags := 1, code := some k7c1 }
def k7c2 : Code := { maxStack := 1, maxLocals := 1, code := prog_43_method_5_code, exceptionTable := #[], attributes := #[] }
def k7m2 : Method := { name := "line", desc := "()I", sig := { parameters := [], returnType := some .int }, accessFlags := 1, code := some k7c2 }
def k7c3 : Code := { maxStack := 2, maxLocals := 1, code := prog_43_method_16_code, exceptionTable := #[], attributes := #[] }
def k7m3 : Method := { name := "textStart", desc := "()I", sig := { parameters := [], returnType := some .int }, accessFlags := 0, code := some k7c3 }
/-- com/example/catchline/catchline/Node -/
def k7 : Class := { plain "com/example/catchline/catchline/Node" (some 0) with
  accessFlags := 49
  interfaces := #[]
  cf := some (fileOf pool7 11 #[] #[{ accessFlags := 0, nameIndex := 5, descriptorIndex := 130, attributes := #[] }, { accessFlags := 1, nameIndex := 48, descriptorIndex := 133, attributes := #[] }, { accessFlags := 1, nameIndex := 59, descriptorIndex := 90, attributes := #[] }, { accessFlags := 0, nameIndex := 145, descriptorIndex := 90, attributes := #[] }] 49 2 #[] #[{ accessFlags := 18, nameIndex := 48, descriptorIndex := 49, attributes := #[] }, { accessFlags := 18, nameIndex := 52, descriptorIndex := 53, attributes := #[] }, { accessFlags := 18, nameIndex := 56, descriptorIndex := 53, attributes := #[] }, { accessFlags := 18, nameIndex := 59, descriptorIndex := 60, attributes := #[] }, { accessFlags := 18, nameIndex := 63, descriptorIndex := 64, attributes := #[] }, { accessFlags := 2, nameIndex := 67, descriptorIndex := 60, attributes := #[] }, { accessFlags := 18, nameIndex := 14, descriptorIndex := 15, attributes := #[] }, { accessFlags := 18, nameIndex := 24, descriptorIndex := 15, attributes := #[] }, { accessFlags := 18, nameIndex := 27, descriptorIndex := 15, attributes := #[] }, { accessFlags := 18, nameIndex := 30, descriptorIndex := 15, attributes := #[] }, { accessFlags := 18, nameIndex := 33, descriptorIndex := 15, attributes := #[] }, { accessFlags := 2, nameIndex := 42, descriptorIndex := 15, attributes := #[] }, { accessFlags := 18, nameIndex := 45, descriptorIndex := 15, attributes := #[] }])
  fields := #[{ name := "kind", type := (.object "com/example/catchline/catchline/Kind"), accessFlags := 18, slot := 0, constantValue := 0 }, { name := "number", type := (.object "java/lang/String"), accessFlags := 18, slot := 1, constantValue := 0 }, { name := "title", type := (.object "java/lang/String"), accessFlags := 18, slot := 2, constantValue := 0 }, { name := "line", type := .int, accessFlags := 18, slot := 3, constantValue := 0 }, { name := "malformed", type := .boolean, accessFlags := 18, slot := 4, constantValue := 0 }, { name := "end", type := .int, accessFlags := 2, slot := 5, constantValue := 0 }, { name := "children", type := (.object "java/util/List"), accessFlags := 18, slot := 6, constantValue := 0 }, { name := "childrenView", type := (.object "java/util/List"), accessFlags := 18, slot := 7, constantValue := 0 }, { name := "notes", type := (.object "java/util/List"), accessFlags := 18, slot := 8, constantValue := 0 }, { name := "history", type := (.object "java/util/List"), accessFlags := 18, slot := 9, constantValue := 0 }, { name := "footnotes", type := (.object "java/util/List"), accessFlags := 18, slot := 10, constantValue := 0 }, { name := "parts", type := (.object "java/util/List"), accessFlags := 2, slot := 11, constantValue := 0 }, { name := "citations", type := (.object "java/util/List"), accessFlags := 18, slot := 12, constantValue := 0 }]
  methods := #[k7m0, k7m1, k7m2, k7m3]
  instanceTypes := #[(.object "com/example/catchline/catchline/Kind"), (.object "java/lang/String"), (.object "java/lang/String"), .int, .boolean, .int, (.object "java/util/List"), (.object "java/util/List"), (.object "java/util/List"), (.object "java/util/List"), (.object "java/util/List"), (.object "java/util/List"), (.object "java/util/List")]
  staticTypes := #[]
  resolved := Array.replicate 161 none
  statics := none }

def pool8 : Array CpInfo := pool [(2, .class_ 4), (1, u "java/lang/CharSequence"), (42, .class_ 48), (0, u "java/lang/CharSequence$1CodePointIterator"), (10, .class_ 60), (0, u "java/lang/CharSequence$1CharIterator"), (5, .class_ 67), (0, u "java/lang/Object")] 63

/-- java/lang/CharSequence -/
def k8 : Class := { plain "java/lang/CharSequence" (some 0) with
  accessFlags := 1537
  interfaces := #[]
  cf := some (fileOf pool8 2 #[.nestMembers #[47, 59]] #[] 1537 66 #[] #[])
  fields := #[]
  methods := #[]
  instanceTypes := #[]
  staticTypes := #[]
  resolved := Array.replicate 131 none
  statics := none }

def pool9 : Array CpInfo := pool [(1, .class_ 2), (0, u "java/lang/constant/ConstantDesc"), (0, .class_ 4), (0, u "java/lang/Object")] 32

/-- java/lang/constant/ConstantDesc -/
def k9 : Class := { plain "java/lang/constant/ConstantDesc" (some 0) with
  accessFlags := 1537
  interfaces := #[]
  cf := some (fileOf pool9 1 #[] #[] 1537 3 #[] #[])
  fields := #[]
  methods := #[]
  instanceTypes := #[]
  staticTypes := #[]
  resolved := Array.replicate 37 none
  statics := none }

def pool10 : Array CpInfo := pool [(2, .class_ 4), (1, u "java/lang/Object"), (0, u "<init>"), (0, u "()V"), (3, .class_ 12), (1, u "java/lang/String"), (0, u "value"), (0, u "[B"), (2, u "coder"), (0, u "B"), (2, u "hash"), (0, u "I"), (2, u "hashIsZero"), (0, u "Z"), (13, u "COMPACT_STRINGS"), (534, .class_ 576), (0, u "java/lang/CharSequence"), (22, u "CASE_INSENSITIVE_ORDER"), (0, u "Ljava/util/Comparator;"), (500, u "serialPersistentFields"), (0, u "[Ljava/io/ObjectStreamField;"), (0, .class_ 1104), (0, u "java/lang/String$CaseInsensitiveComparator"), (1, .class_ 1107), (0, u "java/io/Serializable"), (0, .class_ 1109), (0, u "java/lang/Comparable"), (0, .class_ 1111), (0, u "java/lang/constant/Constable"), (0, .class_ 1113), (0, u "java/lang/constant/ConstantDesc"), (2, u "serialVersionUID"), (0, u "J"), (3, u "REPL"), (0, u "C"), (2, u "LATIN1"), (1, u "UTF16")] 323

def k10m0 : Method := { name := "<init>", desc := "()V", sig := { parameters := [], returnType := none }, accessFlags := 1, code := none }
/-- java/lang/String -/
def k10 : Class := { plain "java/lang/String" (some 0) with
  accessFlags := 49
  interfaces := #[4, 3, 8, 2, 9]
  cf := some (fileOf pool10 10 #[.nestMembers #[1103]] #[{ accessFlags := 1, nameIndex := 5, descriptorIndex := 6, attributes := #[] }] 49 2 #[1106, 1108, 575, 1110, 1112] #[{ accessFlags := 18, nameIndex := 13, descriptorIndex := 14, attributes := #[] }, { accessFlags := 18, nameIndex := 17, descriptorIndex := 18, attributes := #[] }, { accessFlags := 2, nameIndex := 21, descriptorIndex := 22, attributes := #[] }, { accessFlags := 2, nameIndex := 25, descriptorIndex := 26, attributes := #[] }, { accessFlags := 26, nameIndex := 1116, descriptorIndex := 1117, attributes := #[] }, { accessFlags := 24, nameIndex := 40, descriptorIndex := 26, attributes := #[] }, { accessFlags := 26, nameIndex := 1101, descriptorIndex := 1102, attributes := #[] }, { accessFlags := 26, nameIndex := 1121, descriptorIndex := 1122, attributes := #[] }, { accessFlags := 25, nameIndex := 599, descriptorIndex := 600, attributes := #[] }, { accessFlags := 24, nameIndex := 1125, descriptorIndex := 18, attributes := #[] }, { accessFlags := 24, nameIndex := 1127, descriptorIndex := 18, attributes := #[] }])
  fields := #[{ name := "value", type := (.array .byte), accessFlags := 18, slot := 0, constantValue := 0 }, { name := "coder", type := .byte, accessFlags := 18, slot := 1, constantValue := 0 }, { name := "hash", type := .int, accessFlags := 2, slot := 2, constantValue := 0 }, { name := "hashIsZero", type := .boolean, accessFlags := 2, slot := 3, constantValue := 0 }, { name := "serialVersionUID", type := .long, accessFlags := 26, slot := 0, constantValue := 0 }, { name := "COMPACT_STRINGS", type := .boolean, accessFlags := 24, slot := 1, constantValue := 0 }, { name := "serialPersistentFields", type := (.array (.object "java/io/ObjectStreamField")), accessFlags := 26, slot := 2, constantValue := 0 }, { name := "REPL", type := .char, accessFlags := 26, slot := 3, constantValue := 0 }, { name := "CASE_INSENSITIVE_ORDER", type := (.object "java/util/Comparator"), accessFlags := 25, slot := 4, constantValue := 0 }, { name := "LATIN1", type := .byte, accessFlags := 24, slot := 5, constantValue := 0 }, { name := "UTF16", type := .byte, accessFlags := 24, slot := 6, constantValue := 0 }]
  methods := #[k10m0]
  instanceTypes := #[(.array .byte), .byte, .int, .boolean]
  staticTypes := #[.long, .boolean, (.array (.object "java/io/ObjectStreamField")), .char, (.object "java/util/Comparator"), .byte, .byte]
  resolved := Array.replicate 1451 none
  statics := none }

def pool11 : Array CpInfo := pool [(8, .class_ 10), (1, u "java/lang/Iterable"), (24, .class_ 36), (0, u "java/lang/Object")] 25

/-- java/lang/Iterable -/
def k11 : Class := { plain "java/lang/Iterable" (some 0) with
  accessFlags := 1537
  interfaces := #[]
  cf := some (fileOf pool11 8 #[] #[] 1537 35 #[] #[])
  fields := #[]
  methods := #[]
  instanceTypes := #[]
  staticTypes := #[]
  resolved := Array.replicate 62 none
  statics := none }

def pool12 : Array CpInfo := pool [(10, .class_ 12), (1, u "java/util/Collection"), (47, .class_ 61), (0, u "java/lang/Object"), (0, .class_ 63), (0, u "java/lang/Iterable")] 51

/-- java/util/Collection -/
def k12 : Class := { plain "java/util/Collection" (some 0) with
  accessFlags := 1537
  interfaces := #[11]
  cf := some (fileOf pool12 10 #[] #[] 1537 60 #[62] #[])
  fields := #[]
  methods := #[]
  instanceTypes := #[]
  staticTypes := #[]
  resolved := Array.replicate 115 none
  statics := none }

def pool13 : Array CpInfo := pool [(1, .methodref 2 3), (0, .class_ 4), (0, .nameAndType 5 6), (0, u "java/lang/Object"), (0, u "<init>"), (0, u "()V"), (1, .class_ 10), (1, u "java/util/AbstractCollection"), (66, .class_ 78), (0, u "java/util/Collection")] 81

def k13c0 : Code := { maxStack := 1, maxLocals := 1, code := jdk_22_method_1_code, exceptionTable := #[], attributes := #[] }
def k13m0 : Method := { name := "<init>", desc := "()V", sig := { parameters := [], returnType := none }, accessFlags := 4, code := some k13c0 }
/-- java/util/AbstractCollection -/
def k13 : Class := { plain "java/util/AbstractCollection" (some 0) with
  accessFlags := 1057
  interfaces := #[12]
  cf := some (fileOf pool13 8 #[] #[{ accessFlags := 4, nameIndex := 5, descriptorIndex := 6, attributes := #[] }] 1057 2 #[77] #[])
  fields := #[]
  methods := #[k13m0]
  instanceTypes := #[]
  staticTypes := #[]
  resolved := Array.replicate 160 none
  statics := none }

def pool14 : Array CpInfo := pool [(8, .class_ 10), (1, u "java/util/SequencedCollection"), (15, .class_ 27), (0, u "java/lang/Object"), (0, .class_ 29), (0, u "java/util/Collection")] 27

/-- java/util/SequencedCollection -/
def k14 : Class := { plain "java/util/SequencedCollection" (some 0) with
  accessFlags := 1537
  interfaces := #[12]
  cf := some (fileOf pool14 8 #[] #[] 1537 26 #[28] #[])
  fields := #[]
  methods := #[]
  instanceTypes := #[]
  staticTypes := #[]
  resolved := Array.replicate 57 none
  statics := none }

def pool15 : Array CpInfo := pool [(8, .class_ 10), (1, u "java/util/List"), (77, u "of"), (1, .fieldref 91 92), (0, .class_ 93), (0, .nameAndType 94 95), (0, u "java/util/ImmutableCollections"), (0, u "EMPTY_LIST"), (0, u "Ljava/util/ImmutableCollections$ListN;"), (7, .class_ 104), (0, u "java/lang/Object"), (14, u "()Ljava/util/List;"), (0, .class_ 121), (0, u "java/util/SequencedCollection")] 129

def k15c0 : Code := { maxStack := 1, maxLocals := 0, code := jdk_40_method_36_code, exceptionTable := #[], attributes := #[] }
def k15m0 : Method := { name := "of", desc := "()Ljava/util/List;", sig := { parameters := [], returnType := some (.object "java/util/List") }, accessFlags := 9, code := some k15c0 }
/-- java/util/List -/
def k15 : Class := { plain "java/util/List" (some 0) with
  accessFlags := 1537
  interfaces := #[14]
  cf := some (fileOf pool15 8 #[] #[{ accessFlags := 9, nameIndex := 88, descriptorIndex := 119, attributes := #[] }] 1537 103 #[120] #[])
  fields := #[]
  methods := #[k15m0]
  instanceTypes := #[]
  staticTypes := #[]
  resolved := Array.replicate 251 none
  statics := none }

def pool16 : Array CpInfo := pool [(1, .methodref 2 3), (0, .class_ 4), (0, .nameAndType 5 6), (0, u "java/util/AbstractCollection"), (0, u "<init>"), (0, u "()V"), (0, .fieldref 8 9), (0, .class_ 10), (0, .nameAndType 11 12), (0, u "java/util/AbstractList"), (0, u "modCount"), (0, u "I"), (64, .class_ 78), (0, u "java/util/AbstractList$Itr"), (3, .class_ 83), (0, u "java/util/AbstractList$ListItr"), (9, .class_ 94), (0, u "java/util/AbstractList$RandomAccessSubList"), (3, .class_ 99), (0, u "java/util/AbstractList$SubList"), (33, .class_ 134), (0, u "java/util/List"), (73, .class_ 209), (0, u "java/util/AbstractList$SubList$1"), (0, .class_ 211), (0, u "java/util/AbstractList$RandomAccessSpliterator")] 6

def k16c0 : Code := { maxStack := 2, maxLocals := 1, code := jdk_39_method_1_code, exceptionTable := #[], attributes := #[] }
def k16m0 : Method := { name := "<init>", desc := "()V", sig := { parameters := [], returnType := none }, accessFlags := 4, code := some k16c0 }
/-- java/util/AbstractList -/
def k16 : Class := { plain "java/util/AbstractList" (some 13) with
  accessFlags := 1057
  interfaces := #[15]
  cf := some (fileOf pool16 8 #[.nestMembers #[93, 98, 208, 210, 82, 77]] #[{ accessFlags := 4, nameIndex := 5, descriptorIndex := 6, attributes := #[] }] 1057 2 #[133] #[{ accessFlags := 132, nameIndex := 11, descriptorIndex := 12, attributes := #[] }])
  fields := #[{ name := "modCount", type := .int, accessFlags := 132, slot := 0, constantValue := 0 }]
  methods := #[k16m0]
  instanceTypes := #[.int]
  staticTypes := #[]
  resolved := Array.replicate 218 none
  statics := none }

def pool17 : Array CpInfo := pool [(1, .class_ 2), (0, u "java/util/RandomAccess"), (0, .class_ 4), (0, u "java/lang/Object")] 2

/-- java/util/RandomAccess -/
def k17 : Class := { plain "java/util/RandomAccess" (some 0) with
  accessFlags := 1537
  interfaces := #[]
  cf := some (fileOf pool17 1 #[] #[] 1537 3 #[] #[])
  fields := #[]
  methods := #[]
  instanceTypes := #[]
  staticTypes := #[]
  resolved := Array.replicate 7 none
  statics := none }

def pool18 : Array CpInfo := pool [(1, .class_ 2), (0, u "java/lang/Cloneable"), (0, .class_ 4), (0, u "java/lang/Object")] 2

/-- java/lang/Cloneable -/
def k18 : Class := { plain "java/lang/Cloneable" (some 0) with
  accessFlags := 1537
  interfaces := #[]
  cf := some (fileOf pool18 1 #[] #[] 1537 3 #[] #[])
  fields := #[]
  methods := #[]
  instanceTypes := #[]
  staticTypes := #[]
  resolved := Array.replicate 7 none
  statics := none }

def pool19 : Array CpInfo := pool [(1, .methodref 2 3), (0, .class_ 4), (0, .nameAndType 5 6), (0, u "java/util/AbstractList"), (0, u "<init>"), (0, u "()V"), (2, .fieldref 10 11), (0, .class_ 12), (0, .nameAndType 13 14), (0, u "java/util/ArrayList"), (0, u "elementData"), (0, u "[Ljava/lang/Object;"), (2, u "EMPTY_ELEMENTDATA"), (21, .fieldref 10 40), (0, .nameAndType 41 14), (0, u "DEFAULTCAPACITY_EMPTY_ELEMENTDATA"), (8, u "size"), (0, u "I"), (96, .class_ 149), (0, u "java/util/List"), (112, .class_ 263), (0, u "java/util/ArrayList$ListItr"), (3, .class_ 268), (0, u "java/util/ArrayList$Itr"), (7, .class_ 277), (0, u "java/util/ArrayList$SubList"), (12, .class_ 291), (0, u "java/util/ArrayList$ArrayListSpliterator"), (37, .class_ 330), (0, u "java/util/RandomAccess"), (0, .class_ 332), (0, u "java/lang/Cloneable"), (0, .class_ 334), (0, u "java/io/Serializable"), (0, u "serialVersionUID"), (0, u "J"), (3, u "DEFAULT_CAPACITY"), (159, .class_ 501), (0, u "java/util/ArrayList$SubList$2"), (0, .class_ 503), (0, u "java/util/ArrayList$SubList$1")] 5

def k19c0 : Code := { maxStack := 2, maxLocals := 1, code := jdk_38_method_2_code, exceptionTable := #[], attributes := #[] }
def k19m0 : Method := { name := "<init>", desc := "()V", sig := { parameters := [], returnType := none }, accessFlags := 1, code := some k19c0 }
/-- java/util/ArrayList -/
def k19 : Class := { plain "java/util/ArrayList" (some 16) with
  accessFlags := 33
  interfaces := #[15, 17, 18, 4]
  cf := some (fileOf pool19 10 #[.nestMembers #[290, 276, 500, 502, 262, 267]] #[{ accessFlags := 1, nameIndex := 5, descriptorIndex := 6, attributes := #[] }] 33 2 #[148, 329, 331, 333] #[{ accessFlags := 26, nameIndex := 335, descriptorIndex := 336, attributes := #[] }, { accessFlags := 26, nameIndex := 340, descriptorIndex := 51, attributes := #[] }, { accessFlags := 26, nameIndex := 17, descriptorIndex := 14, attributes := #[] }, { accessFlags := 26, nameIndex := 41, descriptorIndex := 14, attributes := #[] }, { accessFlags := 128, nameIndex := 13, descriptorIndex := 14, attributes := #[] }, { accessFlags := 2, nameIndex := 50, descriptorIndex := 51, attributes := #[] }])
  fields := #[{ name := "serialVersionUID", type := .long, accessFlags := 26, slot := 0, constantValue := 0 }, { name := "DEFAULT_CAPACITY", type := .int, accessFlags := 26, slot := 1, constantValue := 0 }, { name := "EMPTY_ELEMENTDATA", type := (.array (.object "java/lang/Object")), accessFlags := 26, slot := 2, constantValue := 0 }, { name := "DEFAULTCAPACITY_EMPTY_ELEMENTDATA", type := (.array (.object "java/lang/Object")), accessFlags := 26, slot := 3, constantValue := 0 }, { name := "elementData", type := (.array (.object "java/lang/Object")), accessFlags := 128, slot := 1, constantValue := 0 }, { name := "size", type := .int, accessFlags := 2, slot := 2, constantValue := 0 }]
  methods := #[k19m0]
  instanceTypes := #[.int, (.array (.object "java/lang/Object")), .int]
  staticTypes := #[.long, .int, (.array (.object "java/lang/Object")), (.array (.object "java/lang/Object"))]
  resolved := Array.replicate 509 none
  mirror := some 3
  statics := some 1 }

def pool20 : Array CpInfo := pool [(2, .class_ 4), (1, u "java/lang/Object"), (0, u "<init>"), (0, u "()V"), (1, .class_ 10), (1, u "java/util/List"), (2, .class_ 14), (0, u "java/util/RandomAccess"), (4, .class_ 20), (0, u "java/util/Collections"), (63, u "r"), (0, u "Ljava/util/Random;"), (67, u "(Ljava/util/List;)V"), (9, .nameAndType 164 165), (0, u "getClass"), (0, u "()Ljava/lang/Class;"), (0, .class_ 167), (0, u "java/util/Collections$UnmodifiableCollection"), (6, .class_ 175), (0, u "java/util/Collections$UnmodifiableSequencedCollection"), (6, .class_ 183), (0, u "java/util/Collections$UnmodifiableSet"), (6, .class_ 191), (0, u "java/util/Collections$UnmodifiableSequencedSet"), (6, .class_ 199), (0, u "java/util/Collections$UnmodifiableSortedSet"), (6, .class_ 207), (0, u "java/util/Collections$UnmodifiableNavigableSet"), (3, .interfaceMethodref 8 163), (0, .class_ 213), (0, u "java/util/Collections$UnmodifiableList"), (0, .interfaceMethodref 8 163), (0, .class_ 216), (0, u "java/util/Collections$UnmodifiableRandomAccessList"), (0, .methodref 215 218), (0, .nameAndType 5 153), (4, .class_ 224), (0, u "java/util/Collections$UnmodifiableMap"), (6, .class_ 232), (0, u "java/util/Collections$UnmodifiableSequencedMap"), (4, .class_ 238), (0, u "java/util/Collections$UnmodifiableSortedMap"), (6, .class_ 246), (0, u "java/util/Collections$UnmodifiableNavigableMap"), (3, .class_ 251), (0, u "java/util/Collections$SynchronizedCollection"), (4, .class_ 257), (0, u "java/util/Collections$SynchronizedSet"), (4, .class_ 263), (0, u "java/util/Collections$SynchronizedSortedSet"), (1, .class_ 266), (0, u "java/util/Collections$SynchronizedNavigableSet"), (1, .class_ 269), (0, u "java/util/Collections$SynchronizedRandomAccessList"), (1, .class_ 272), (0, u "java/util/Collections$SynchronizedList"), (5, .class_ 279), (0, u "java/util/Collections$SynchronizedMap"), (1, .class_ 282), (0, u "java/util/Collections$SynchronizedSortedMap"), (1, .class_ 285), (0, u "java/util/Collections$SynchronizedNavigableMap"), (1, .class_ 288), (0, u "java/util/Collections$CheckedCollection"), (11, .class_ 301), (0, u "java/util/Collections$CheckedQueue"), (3, .class_ 306), (0, u "java/util/Collections$CheckedSet"), (3, .class_ 311), (0, u "java/util/Collections$CheckedSortedSet"), (3, .class_ 316), (0, u "java/util/Collections$CheckedNavigableSet"), (3, .class_ 321), (0, u "java/util/Collections$CheckedRandomAccessList"), (3, .class_ 326), (0, u "java/util/Collections$CheckedList"), (1, .class_ 329), (0, u "java/util/Collections$CheckedMap"), (3, .class_ 334), (0, u "java/util/Collections$CheckedSortedMap"), (3, .class_ 339), (0, u "java/util/Collections$CheckedNavigableMap"), (4, .class_ 346), (1, u "java/util/Collections$EmptyIterator"), (3, .class_ 352), (1, u "java/util/Collections$EmptyListIterator"), (2, .class_ 357), (1, u "java/util/Collections$EmptyEnumeration"), (4, u "EMPTY_SET"), (0, u "Ljava/util/Set;"), (6, u "EMPTY_LIST"), (0, u "Ljava/util/List;"), (2, u "EMPTY_MAP"), (0, u "Ljava/util/Map;"), (4, .class_ 381), (0, u "java/util/Collections$SingletonSet"), (2, .class_ 385), (0, u "java/util/Collections$1"), (1, .class_ 388), (0, u "java/util/Collections$2"), (1, .class_ 391), (0, u "java/util/Collections$SingletonList"), (1, .class_ 394), (0, u "java/util/Collections$SingletonMap"), (22, .class_ 418), (0, u "java/util/Collections$CopiesList"), (4, .class_ 425), (1, u "java/util/Collections$ReverseComparator"), (8, .class_ 435), (0, u "java/util/Collections$ReverseComparator2"), (6, .class_ 443), (0, u "java/util/Collections$3"), (25, .class_ 470), (0, u "java/util/Collections$SetFromMap"), (2, .class_ 474), (0, u "java/util/Collections$SequencedSetFromMap"), (3, .class_ 479), (0, u "java/util/Collections$AsLIFOQueue"), (11, .class_ 492), (0, u "java/util/Collections$EmptySet"), (1, .class_ 495), (0, u "java/util/Collections$EmptyList"), (1, .class_ 498), (0, u "java/util/Collections$EmptyMap"), (1, u "BINARYSEARCH_THRESHOLD"), (0, u "I"), (2, u "REVERSE_THRESHOLD"), (1, u "SHUFFLE_THRESHOLD"), (1, u "FILL_THRESHOLD"), (1, u "ROTATE_THRESHOLD"), (1, u "COPY_THRESHOLD"), (1, u "REPLACEALL_THRESHOLD"), (1, u "INDEXOFSUBLIST_THRESHOLD"), (129, u "unmodifiableList"), (0, u "(Ljava/util/List;)Ljava/util/List;"), (202, .class_ 851), (0, u "java/util/Collections$CheckedMap$CheckedEntrySet"), (0, .class_ 853), (0, u "java/util/Collections$CheckedMap$CheckedEntrySet$CheckedEntry"), (0, .class_ 855), (0, u "java/util/Collections$CheckedMap$CheckedEntrySet$1"), (0, .class_ 857), (0, u "java/util/Collections$CheckedList$1"), (0, .class_ 859), (0, u "java/util/Collections$CheckedCollection$1"), (0, .class_ 861), (0, u "java/util/Collections$UnmodifiableNavigableMap$EmptyNavigableMap"), (0, .class_ 863), (0, u "java/util/Collections$UnmodifiableMap$UnmodifiableEntrySet"), (0, .class_ 865), (0, u "java/util/Collections$UnmodifiableMap$UnmodifiableEntrySet$UnmodifiableEntry"), (0, .class_ 867), (0, u "java/util/Collections$UnmodifiableMap$UnmodifiableEntrySet$UnmodifiableEntrySetSpliterator"), (0, .class_ 869), (0, u "java/util/Collections$UnmodifiableMap$UnmodifiableEntrySet$1"), (0, .class_ 871), (0, u "java/util/Collections$UnmodifiableList$1"), (0, .class_ 873), (0, u "java/util/Collections$UnmodifiableNavigableSet$EmptyNavigableSet"), (0, .class_ 875), (0, u "java/util/Collections$UnmodifiableCollection$1")] 57

def k20m0 : Method := { name := "<init>", desc := "()V", sig := { parameters := [], returnType := none }, accessFlags := 2, code := none }
def k20c1 : Code := { maxStack := 3, maxLocals := 1, code := jdk_79_method_35_code, exceptionTable := #[], attributes := #[] }
def k20m1 : Method := { name := "unmodifiableList", desc := "(Ljava/util/List;)Ljava/util/List;", sig := { parameters := [(.object "java/util/List")], returnType := some (.object "java/util/List") }, accessFlags := 9, code := some k20c1 }
/-- java/util/Collections -/
def k20 : Class := { plain "java/util/Collections" (some 0) with
  accessFlags := 33
  interfaces := #[]
  cf := some (fileOf pool20 19 #[.nestMembers #[478, 473, 469, 434, 423, 417, 393, 390, 380, 497, 494, 491, 355, 350, 344, 338, 333, 328, 850, 852, 854, 320, 325, 856, 315, 310, 305, 300, 287, 858, 284, 281, 278, 268, 271, 265, 262, 256, 250, 245, 860, 237, 231, 223, 862, 864, 866, 868, 215, 212, 870, 206, 872, 198, 190, 182, 174, 166, 874, 442, 387, 384]] #[{ accessFlags := 2, nameIndex := 5, descriptorIndex := 6, attributes := #[] }, { accessFlags := 9, nameIndex := 646, descriptorIndex := 647, attributes := #[] }] 33 2 #[] #[{ accessFlags := 26, nameIndex := 500, descriptorIndex := 501, attributes := #[] }, { accessFlags := 26, nameIndex := 504, descriptorIndex := 501, attributes := #[] }, { accessFlags := 26, nameIndex := 506, descriptorIndex := 501, attributes := #[] }, { accessFlags := 26, nameIndex := 508, descriptorIndex := 501, attributes := #[] }, { accessFlags := 26, nameIndex := 510, descriptorIndex := 501, attributes := #[] }, { accessFlags := 26, nameIndex := 512, descriptorIndex := 501, attributes := #[] }, { accessFlags := 26, nameIndex := 514, descriptorIndex := 501, attributes := #[] }, { accessFlags := 26, nameIndex := 516, descriptorIndex := 501, attributes := #[] }, { accessFlags := 10, nameIndex := 84, descriptorIndex := 85, attributes := #[] }, { accessFlags := 25, nameIndex := 362, descriptorIndex := 363, attributes := #[] }, { accessFlags := 25, nameIndex := 370, descriptorIndex := 371, attributes := #[] }, { accessFlags := 25, nameIndex := 374, descriptorIndex := 375, attributes := #[] }])
  fields := #[{ name := "BINARYSEARCH_THRESHOLD", type := .int, accessFlags := 26, slot := 0, constantValue := 0 }, { name := "REVERSE_THRESHOLD", type := .int, accessFlags := 26, slot := 1, constantValue := 0 }, { name := "SHUFFLE_THRESHOLD", type := .int, accessFlags := 26, slot := 2, constantValue := 0 }, { name := "FILL_THRESHOLD", type := .int, accessFlags := 26, slot := 3, constantValue := 0 }, { name := "ROTATE_THRESHOLD", type := .int, accessFlags := 26, slot := 4, constantValue := 0 }, { name := "COPY_THRESHOLD", type := .int, accessFlags := 26, slot := 5, constantValue := 0 }, { name := "REPLACEALL_THRESHOLD", type := .int, accessFlags := 26, slot := 6, constantValue := 0 }, { name := "INDEXOFSUBLIST_THRESHOLD", type := .int, accessFlags := 26, slot := 7, constantValue := 0 }, { name := "r", type := (.object "java/util/Random"), accessFlags := 10, slot := 8, constantValue := 0 }, { name := "EMPTY_SET", type := (.object "java/util/Set"), accessFlags := 25, slot := 9, constantValue := 0 }, { name := "EMPTY_LIST", type := (.object "java/util/List"), accessFlags := 25, slot := 10, constantValue := 0 }, { name := "EMPTY_MAP", type := (.object "java/util/Map"), accessFlags := 25, slot := 11, constantValue := 0 }]
  methods := #[k20m0, k20m1]
  instanceTypes := #[]
  staticTypes := #[.int, .int, .int, .int, .int, .int, .int, .int, (.object "java/util/Random"), (.object "java/util/Set"), (.object "java/util/List"), (.object "java/util/Map")]
  resolved := Array.replicate 933 none
  statics := none }

def pool21 : Array CpInfo := pool [(1, .methodref 2 3), (0, .class_ 4), (0, .nameAndType 5 6), (0, u "java/lang/Object"), (0, u "<init>"), (0, u "()V"), (3, .fieldref 11 12), (0, .class_ 13), (0, .nameAndType 14 15), (0, u "java/util/Collections$UnmodifiableCollection"), (0, u "c"), (0, u "Ljava/util/Collection;"), (1, .class_ 19), (1, u "java/util/Collection"), (51, .class_ 72), (0, u "java/io/Serializable"), (0, u "serialVersionUID"), (0, u "J"), (5, u "(Ljava/util/Collection;)V"), (51, .class_ 133), (0, u "java/util/Collections")] 2

def k21c0 : Code := { maxStack := 2, maxLocals := 2, code := jdk_119_method_1_code, exceptionTable := #[], attributes := #[] }
def k21m0 : Method := { name := "<init>", desc := "(Ljava/util/Collection;)V", sig := { parameters := [(.object "java/util/Collection")], returnType := none }, accessFlags := 0, code := some k21c0 }
/-- java/util/Collections$UnmodifiableCollection -/
def k21 : Class := { plain "java/util/Collections$UnmodifiableCollection" (some 0) with
  accessFlags := 32
  interfaces := #[12, 4]
  cf := some (fileOf pool21 11 #[.nestHost 132] #[{ accessFlags := 0, nameIndex := 5, descriptorIndex := 80, attributes := #[] }] 32 2 #[17, 71] #[{ accessFlags := 26, nameIndex := 73, descriptorIndex := 74, attributes := #[] }, { accessFlags := 16, nameIndex := 14, descriptorIndex := 15, attributes := #[] }])
  fields := #[{ name := "serialVersionUID", type := .long, accessFlags := 26, slot := 0, constantValue := 0 }, { name := "c", type := (.object "java/util/Collection"), accessFlags := 16, slot := 0, constantValue := 0 }]
  methods := #[k21m0]
  instanceTypes := #[(.object "java/util/Collection")]
  staticTypes := #[.long]
  resolved := Array.replicate 136 none
  statics := none }

def pool22 : Array CpInfo := pool [(1, .methodref 2 3), (0, .class_ 4), (0, .nameAndType 5 6), (0, u "java/util/Collections$UnmodifiableCollection"), (0, u "<init>"), (0, u "(Ljava/util/Collection;)V"), (0, .fieldref 8 9), (0, .class_ 10), (0, .nameAndType 11 12), (0, u "java/util/Collections$UnmodifiableList"), (0, u "list"), (0, u "Ljava/util/List;"), (1, .class_ 16), (1, u "java/util/List"), (37, u "(Ljava/util/List;)V"), (5, u "serialVersionUID"), (0, u "J"), (59, .class_ 122), (0, u "java/util/Collections")] 4

def k22c0 : Code := { maxStack := 2, maxLocals := 2, code := jdk_120_method_1_code, exceptionTable := #[], attributes := #[] }
def k22m0 : Method := { name := "<init>", desc := "(Ljava/util/List;)V", sig := { parameters := [(.object "java/util/List")], returnType := none }, accessFlags := 0, code := some k22c0 }
/-- java/util/Collections$UnmodifiableList -/
def k22 : Class := { plain "java/util/Collections$UnmodifiableList" (some 21) with
  accessFlags := 32
  interfaces := #[15]
  cf := some (fileOf pool22 8 #[.nestHost 121] #[{ accessFlags := 0, nameIndex := 5, descriptorIndex := 54, attributes := #[] }] 32 2 #[14] #[{ accessFlags := 26, nameIndex := 60, descriptorIndex := 61, attributes := #[] }, { accessFlags := 16, nameIndex := 11, descriptorIndex := 12, attributes := #[] }])
  fields := #[{ name := "serialVersionUID", type := .long, accessFlags := 26, slot := 0, constantValue := 0 }, { name := "list", type := (.object "java/util/List"), accessFlags := 16, slot := 1, constantValue := 0 }]
  methods := #[k22m0]
  instanceTypes := #[(.object "java/util/Collection"), (.object "java/util/List")]
  staticTypes := #[.long]
  resolved := Array.replicate 127 none
  mirror := some 4
  statics := none }

def pool23 : Array CpInfo := pool [(1, .methodref 2 3), (0, .class_ 4), (0, .nameAndType 5 6), (0, u "java/util/Collections$UnmodifiableList"), (0, u "<init>"), (0, u "(Ljava/util/List;)V"), (0, .class_ 8), (0, u "java/util/Collections$UnmodifiableRandomAccessList"), (11, .class_ 21), (0, u "java/util/RandomAccess"), (0, u "serialVersionUID"), (0, u "J"), (23, .class_ 48), (0, u "java/util/Collections")] 3

def k23c0 : Code := { maxStack := 2, maxLocals := 2, code := jdk_121_method_1_code, exceptionTable := #[], attributes := #[] }
def k23m0 : Method := { name := "<init>", desc := "(Ljava/util/List;)V", sig := { parameters := [(.object "java/util/List")], returnType := none }, accessFlags := 0, code := some k23c0 }
/-- java/util/Collections$UnmodifiableRandomAccessList -/
def k23 : Class := { plain "java/util/Collections$UnmodifiableRandomAccessList" (some 22) with
  accessFlags := 32
  interfaces := #[17]
  cf := some (fileOf pool23 7 #[.nestHost 47] #[{ accessFlags := 0, nameIndex := 5, descriptorIndex := 6, attributes := #[] }] 32 2 #[20] #[{ accessFlags := 26, nameIndex := 22, descriptorIndex := 23, attributes := #[] }])
  fields := #[{ name := "serialVersionUID", type := .long, accessFlags := 26, slot := 0, constantValue := 0 }]
  methods := #[k23m0]
  instanceTypes := #[(.object "java/util/Collection"), (.object "java/util/List")]
  staticTypes := #[.long]
  resolved := Array.replicate 52 none
  mirror := some 5
  statics := none }

def pool24 : Array CpInfo := pool [(2, .class_ 4), (1, u "java/lang/Object"), (0, u "<init>"), (0, u "()V"), (3, .class_ 11), (0, u "java/util/ImmutableCollections$List12"), (0, .class_ 13), (0, u "java/util/ImmutableCollections$ListN"), (3, u "Z"), (29, .class_ 49), (1, u "java/util/ImmutableCollections"), (0, u "$assertionsDisabled"), (5, u "[Ljava/lang/Object;"), (5, u "EMPTY_LIST"), (0, u "Ljava/util/ImmutableCollections$ListN;"), (8, u "EMPTY_LIST_NULLS"), (22, u "SALT32L"), (0, u "J"), (2, u "REVERSE"), (6, u "archivedObjects"), (2, u "EMPTY"), (0, u "Ljava/lang/Object;"), (0, .class_ 112), (0, u "java/util/ImmutableCollections$SetN"), (5, u "EMPTY_SET"), (0, u "Ljava/util/ImmutableCollections$SetN;"), (0, .class_ 121), (0, u "java/util/ImmutableCollections$MapN"), (3, u "EMPTY_MAP"), (0, u "Ljava/util/ImmutableCollections$MapN;"), (4, u "EXPAND_FACTOR"), (0, u "I"), (36, .class_ 170), (0, u "java/util/ImmutableCollections$MapN$MapNIterator"), (0, .class_ 172), (0, u "java/util/ImmutableCollections$MapN$1"), (0, .class_ 174), (0, u "java/util/ImmutableCollections$Map1"), (0, .class_ 176), (0, u "java/util/ImmutableCollections$AbstractImmutableMap"), (0, .class_ 178), (0, u "java/util/ImmutableCollections$SetN$SetNIterator"), (0, .class_ 180), (0, u "java/util/ImmutableCollections$Set12"), (0, .class_ 182), (0, u "java/util/ImmutableCollections$Set12$1"), (0, .class_ 184), (0, u "java/util/ImmutableCollections$AbstractImmutableSet"), (0, .class_ 186), (0, u "java/util/ImmutableCollections$SubList"), (0, .class_ 188), (0, u "java/util/ImmutableCollections$ListItr"), (0, .class_ 190), (0, u "java/util/ImmutableCollections$AbstractImmutableList"), (0, .class_ 192), (0, u "java/util/ImmutableCollections$AbstractImmutableCollection"), (0, .class_ 194), (0, u "java/util/ImmutableCollections$Access"), (0, .class_ 196), (0, u "java/util/ImmutableCollections$Access$1")] 16

def k24m0 : Method := { name := "<init>", desc := "()V", sig := { parameters := [], returnType := none }, accessFlags := 2, code := none }
/-- java/util/ImmutableCollections -/
def k24 : Class := { plain "java/util/ImmutableCollections" (some 0) with
  accessFlags := 32
  interfaces := #[]
  cf := some (fileOf pool24 47 #[.nestMembers #[120, 169, 171, 173, 175, 111, 177, 179, 181, 183, 12, 10, 185, 187, 189, 191, 193, 195]] #[{ accessFlags := 2, nameIndex := 5, descriptorIndex := 6, attributes := #[] }] 32 2 #[] #[{ accessFlags := 26, nameIndex := 95, descriptorIndex := 96, attributes := #[] }, { accessFlags := 26, nameIndex := 99, descriptorIndex := 17, attributes := #[] }, { accessFlags := 10, nameIndex := 106, descriptorIndex := 56, attributes := #[] }, { accessFlags := 26, nameIndex := 109, descriptorIndex := 110, attributes := #[] }, { accessFlags := 24, nameIndex := 62, descriptorIndex := 63, attributes := #[] }, { accessFlags := 24, nameIndex := 72, descriptorIndex := 63, attributes := #[] }, { accessFlags := 24, nameIndex := 118, descriptorIndex := 119, attributes := #[] }, { accessFlags := 24, nameIndex := 125, descriptorIndex := 126, attributes := #[] }, { accessFlags := 24, nameIndex := 131, descriptorIndex := 132, attributes := #[] }, { accessFlags := 4120, nameIndex := 50, descriptorIndex := 17, attributes := #[] }])
  fields := #[{ name := "SALT32L", type := .long, accessFlags := 26, slot := 0, constantValue := 0 }, { name := "REVERSE", type := .boolean, accessFlags := 26, slot := 1, constantValue := 0 }, { name := "archivedObjects", type := (.array (.object "java/lang/Object")), accessFlags := 10, slot := 2, constantValue := 0 }, { name := "EMPTY", type := (.object "java/lang/Object"), accessFlags := 26, slot := 3, constantValue := 0 }, { name := "EMPTY_LIST", type := (.object "java/util/ImmutableCollections$ListN"), accessFlags := 24, slot := 4, constantValue := 0 }, { name := "EMPTY_LIST_NULLS", type := (.object "java/util/ImmutableCollections$ListN"), accessFlags := 24, slot := 5, constantValue := 0 }, { name := "EMPTY_SET", type := (.object "java/util/ImmutableCollections$SetN"), accessFlags := 24, slot := 6, constantValue := 0 }, { name := "EMPTY_MAP", type := (.object "java/util/ImmutableCollections$MapN"), accessFlags := 24, slot := 7, constantValue := 0 }, { name := "EXPAND_FACTOR", type := .int, accessFlags := 24, slot := 8, constantValue := 0 }, { name := "$assertionsDisabled", type := .boolean, accessFlags := 4120, slot := 9, constantValue := 0 }]
  methods := #[k24m0]
  instanceTypes := #[]
  staticTypes := #[.long, .boolean, (.array (.object "java/lang/Object")), (.object "java/lang/Object"), (.object "java/util/ImmutableCollections$ListN"), (.object "java/util/ImmutableCollections$ListN"), (.object "java/util/ImmutableCollections$SetN"), (.object "java/util/ImmutableCollections$MapN"), .int, .boolean]
  resolved := Array.replicate 213 none
  statics := some 2 }

def pool25 : Array CpInfo := pool [(2, .class_ 4), (1, u "java/util/AbstractCollection"), (0, u "<init>"), (0, u "()V"), (1, .class_ 10), (1, u "java/util/ImmutableCollections"), (2, .class_ 14), (0, u "java/util/ImmutableCollections$AbstractImmutableCollection")] 41

def k25m0 : Method := { name := "<init>", desc := "()V", sig := { parameters := [], returnType := none }, accessFlags := 0, code := none }
/-- java/util/ImmutableCollections$AbstractImmutableCollection -/
def k25 : Class := { plain "java/util/ImmutableCollections$AbstractImmutableCollection" (some 13) with
  accessFlags := 1056
  interfaces := #[]
  cf := some (fileOf pool25 13 #[.nestHost 8] #[{ accessFlags := 0, nameIndex := 5, descriptorIndex := 6, attributes := #[] }] 1056 2 #[] #[])
  fields := #[]
  methods := #[k25m0]
  instanceTypes := #[]
  staticTypes := #[]
  resolved := Array.replicate 56 none
  statics := none }

def pool26 : Array CpInfo := pool [(2, .class_ 4), (1, u "java/util/ImmutableCollections$AbstractImmutableCollection"), (0, u "<init>"), (0, u "()V"), (1, .class_ 10), (1, u "java/util/ImmutableCollections"), (3, .class_ 16), (1, u "java/util/ImmutableCollections$AbstractImmutableList"), (60, .class_ 78), (0, u "java/util/List"), (45, .class_ 125), (0, u "java/util/RandomAccess")] 70

def k26m0 : Method := { name := "<init>", desc := "()V", sig := { parameters := [], returnType := none }, accessFlags := 0, code := none }
/-- java/util/ImmutableCollections$AbstractImmutableList -/
def k26 : Class := { plain "java/util/ImmutableCollections$AbstractImmutableList" (some 25) with
  accessFlags := 1056
  interfaces := #[15, 17]
  cf := some (fileOf pool26 14 #[.nestHost 8] #[{ accessFlags := 0, nameIndex := 5, descriptorIndex := 6, attributes := #[] }] 1056 2 #[77, 124] #[])
  fields := #[]
  methods := #[k26m0]
  instanceTypes := #[]
  staticTypes := #[]
  resolved := Array.replicate 196 none
  statics := none }

def pool27 : Array CpInfo := pool [(2, .class_ 4), (1, u "java/util/ImmutableCollections$AbstractImmutableList"), (3, .class_ 10), (1, u "java/util/ImmutableCollections$ListN"), (0, u "elements"), (0, u "[Ljava/lang/Object;"), (2, u "allowNulls"), (0, u "Z"), (42, .class_ 60), (0, u "java/io/Serializable"), (53, .class_ 115), (0, u "java/util/ImmutableCollections")] 3

/-- java/util/ImmutableCollections$ListN -/
def k27 : Class := { plain "java/util/ImmutableCollections$ListN" (some 26) with
  accessFlags := 48
  interfaces := #[4]
  cf := some (fileOf pool27 8 #[.nestHost 114] #[] 48 2 #[59] #[{ accessFlags := 18, nameIndex := 11, descriptorIndex := 12, attributes := #[] }, { accessFlags := 18, nameIndex := 15, descriptorIndex := 16, attributes := #[] }])
  fields := #[{ name := "elements", type := (.array (.object "java/lang/Object")), accessFlags := 18, slot := 0, constantValue := 0 }, { name := "allowNulls", type := .boolean, accessFlags := 18, slot := 1, constantValue := 0 }]
  methods := #[]
  instanceTypes := #[(.array (.object "java/lang/Object")), .boolean]
  staticTypes := #[]
  resolved := Array.replicate 119 none
  statics := none }

def pool28 : Array CpInfo := pool [(1, u "java/lang/Class"), (0, .class_ 1), (0, u "java/lang/Object"), (0, .class_ 3)] 0

/-- java/lang/Class -/
def k28 : Class := { plain "java/lang/Class" (some 0) with
  accessFlags := 49
  interfaces := #[]
  cf := some (fileOf pool28 2 #[] #[] 49 4 #[] #[])
  fields := #[]
  methods := #[]
  instanceTypes := #[]
  staticTypes := #[]
  resolved := Array.replicate 5 none
  statics := none }

/-- the primitive byte -/
def k29 : Class := { plain "byte" none with kind := .primitive 'B', accessFlags := 0x411 }
/-- [B -/
def k30 : Class := { plain "[B" (some 0) with kind := .array 29 .byte, interfaces := #[18, 4], accessFlags := 1041 }

/-- the primitive int -/
def k31 : Class := { plain "int" none with kind := .primitive 'I', accessFlags := 0x411 }
/-- [I -/
def k32 : Class := { plain "[I" (some 0) with kind := .array 31 .int, interfaces := #[18, 4], accessFlags := 1041 }

/-- [Ljava/lang/Object; -/
def k33 : Class := { plain "[Ljava/lang/Object;" (some 0) with kind := .array 0 (.object "java/lang/Object"), interfaces := #[18, 4], accessFlags := 1041 }

def heap : Heap := #[{ cls := 6, slots := #[.ref 6, .ref 7, .ref 10, .ref 11, .ref 8, .ref 12, .ref 13, .ref 9, .null], vm := .statics 6 },
  { cls := 19, slots := #[.long 0, .int 0, .ref 16, .ref 17], vm := .statics 19 },
  { cls := 24, slots := #[.long 0, .int 0, .null, .null, .ref 15, .null, .null, .null, .int 0, .int 0], vm := .statics 24 },
  { cls := 28, slots := #[], vm := .mirror 19 },
  { cls := 28, slots := #[], vm := .mirror 22 },
  { cls := 28, slots := #[], vm := .mirror 23 },
  { cls := 6, slots := #[.null, .int 0, .int 0], vm := .none },
  { cls := 6, slots := #[.null, .int 1, .int 0], vm := .none },
  { cls := 6, slots := #[.null, .int 4, .int 0], vm := .none },
  { cls := 6, slots := #[.null, .int 7, .int 0], vm := .none },
  { cls := 6, slots := #[.null, .int 2, .int 0], vm := .none },
  { cls := 6, slots := #[.null, .int 3, .int 0], vm := .none },
  { cls := 6, slots := #[.null, .int 5, .int 0], vm := .none },
  { cls := 6, slots := #[.null, .int 6, .int 0], vm := .none },
  { cls := 33, slots := #[], vm := .none },
  { cls := 27, slots := #[.ref 14, .int 0], vm := .none },
  { cls := 33, slots := #[], vm := .none },
  { cls := 33, slots := #[], vm := .none }]
def classes : Array Class := #[k0, k1, k2, k3, k4, k5, k6, k7, k8, k9, k10, k11, k12, k13, k14, k15, k16, k17, k18, k19, k20, k21, k22, k23, k24, k25, k26, k27, k28, k29, k30, k31, k32, k33]
def interned : List (Array UInt16 × Addr) := []
def slotsUsed : Nat := 49
def theMethod : MethodId := ⟨1, 2⟩
def args0 : Array Value := #[.int 5, .int 5, .int 5]
def aboutOver (below : List Frame) : State where
  vm := { classes := classes, interned := interned.toArray }
  heap := heap
  slotsUsed := slotsUsed
  threads := #[{ frames := .invoking theMethod args0 :: below }]
def below0 : List Frame := [.native { method := ⟨0, 0⟩, args := #[] }]
def about1 : State := aboutOver below0
def p0 : Program := .bare "" "" ""
def e0 : Env := launch0.env 0 0 0
theorem w_frames : about1.frames = Frame.invoking theMethod args0 :: below0 := rfl
set_option maxRecDepth 65536 in
theorem w_args : argsFit about1.vm theMethod args0 = true := by decide +kernel
set_option maxRecDepth 65536 in
theorem w_heap : heapFits about1 = true := by decide +kernel
set_option maxRecDepth 65536 in
theorem w_runnable : about1.curStatus? = some .runnable := by decide +kernel
set_option maxRecDepth 65536 in
theorem w_alone : about1.alone = true := by decide +kernel
set_option maxRecDepth 65536 in
theorem w_named : about1.methodNamed? x = some theMethod := by decide +kernel
set_option maxRecDepth 65536 in
theorem w_hears : about1.hears theMethod below0 = true := by decide +kernel
set_option maxRecDepth 65536 in
theorem w_ripe : about1.ripe theMethod args0 below0 = true := by decide +kernel
theorem w_running : about1.status = .running := rfl
set_option maxRecDepth 65536 in
theorem w_room : about1.hasRoom e0.platform room_1 = true :=
  launch0.hasRoom_least _ room_1 (by decide +kernel) (by decide +kernel) (by decide +kernel) (by decide +kernel) (by decide +kernel) (by decide +kernel)
theorem allAtoms_all (ts : List Jvm.Cond) (a : Array Jvm.Value) (st : Jvm.State) : (allAtoms ts).before a st = ts.all (fun c => c.before a st) := by
  induction ts with
  | nil => rfl
  | cons c t ih =>
    show (Jvm.Cond.and c (allAtoms t)).before a st = _
    rw [Jvm.Cond.before_and, ih, List.all_cons]
def words1 : List Jvm.Cond := Jvm.Cond.code x code maxLocals ret :: tables_1
/-- a 'code' word, met by the world's own term for the bytes: nothing is compared byte by byte -/
theorem code_word {y : MethodName} {bytes : ByteArray} {mx : Nat} {rt : Option FieldType} {a : Array Value} {s : State} {m : MethodId} {meth : Method} {c : Code} (h1 : s.methodNamed? y = some m) (h2 : s.vm.method? m = some meth) (h3 : meth.code = some c) (h4 : c.code = bytes)
    (h5 : (c.maxLocals == mx && c.exceptionTable.isEmpty && decide (c.maxStack ≤ mostOperands) && decide (meth.sig.returnType = rt) && !meth.locks && decide (parseMethodDescriptor y.desc = some meth.sig)) = true) : (Jvm.Cond.code y bytes mx rt).before a s = true := by
  simp only [Bool.and_eq_true, beq_iff_eq, Bool.not_eq_true', decide_eq_true_eq] at h5
  obtain ⟨⟨⟨⟨⟨g1, g2⟩, g3⟩, g4⟩, g5⟩, g6⟩ := h5
  simp [Cond.before, Cond.holds, Cond.value, h1, h2, h3, h4, g1, g2, g3, g4, g5, g6]
def isCode : Jvm.Cond → Bool
  | .code _ _ _ _ => true
  | _ => false
theorem all_split {L : List Jvm.Cond} {P : Jvm.Cond → Bool} (h1 : L.all (fun c => isCode c || P c) = true) (h2 : ∀ c ∈ L.filter isCode, P c = true) : L.all P = true := by
  refine List.all_eq_true.mpr fun c hc => ?_
  have h := List.all_eq_true.mp h1 c hc
  rcases Bool.eq_false_or_eq_true (isCode c) with hi | hi
  · exact h2 c (List.mem_filter.mpr ⟨hc, hi⟩)
  · simpa [hi] using h
set_option maxRecDepth 65536 in
theorem w_c0 : (Jvm.Cond.code x code maxLocals ret).before args0 about1 = true := code_word (m := ⟨1, 2⟩) (meth := k1m2) (c := k1c2) (by decide +kernel) rfl rfl rfl (by decide +kernel)
set_option maxRecDepth 65536 in
theorem w_c1 : (Jvm.Cond.code ({ cls := "com/example/catchline/catchline/NodeTextStartPinLaw", name := "kindOf", desc := "(I)Lcom/example/catchline/catchline/Kind;" } : Jvm.MethodName) method_2_code (1 : Nat) (Option.some (Jvm.ClassFile.FieldType.object "com/example/catchline/catchline/Kind"))).before args0 about1 = true := code_word (m := ⟨1, 1⟩) (meth := k1m1) (c := k1c1) (by decide +kernel) rfl rfl rfl (by decide +kernel)
set_option maxRecDepth 65536 in
theorem w_c2 : (Jvm.Cond.code ({ cls := "com/example/catchline/catchline/Node", name := "<init>", desc := "(Lcom/example/catchline/catchline/Kind;Ljava/lang/String;Ljava/lang/String;IZ)V" } : Jvm.MethodName) prog_43_method_1_code (6 : Nat) (Option.none : Option Jvm.ClassFile.FieldType)).before args0 about1 = true := code_word (m := ⟨7, 0⟩) (meth := k7m0) (c := k7c0) (by decide +kernel) rfl rfl rfl (by decide +kernel)
set_option maxRecDepth 65536 in
theorem w_c3 : (Jvm.Cond.code ({ cls := "java/lang/Object", name := "<init>", desc := "()V" } : Jvm.MethodName) object_method_1_code (1 : Nat) (Option.none : Option Jvm.ClassFile.FieldType)).before args0 about1 = true := code_word (m := ⟨0, 0⟩) (meth := k0m0) (c := k0c0) (by decide +kernel) rfl rfl rfl (by decide +kernel)
set_option maxRecDepth 65536 in
theorem w_c4 : (Jvm.Cond.code ({ cls := "java/util/ArrayList", name := "<init>", desc := "()V" } : Jvm.MethodName) jdk_38_method_2_code (1 : Nat) (Option.none : Option Jvm.ClassFile.FieldType)).before args0 about1 = true := code_word (m := ⟨19, 0⟩) (meth := k19m0) (c := k19c0) (by decide +kernel) rfl rfl rfl (by decide +kernel)
set_option maxRecDepth 65536 in
theorem w_c5 : (Jvm.Cond.code ({ cls := "java/util/AbstractList", name := "<init>", desc := "()V" } : Jvm.MethodName) jdk_39_method_1_code (1 : Nat) (Option.none : Option Jvm.ClassFile.FieldType)).before args0 about1 = true := code_word (m := ⟨16, 0⟩) (meth := k16m0) (c := k16c0) (by decide +kernel) rfl rfl rfl (by decide +kernel)
set_option maxRecDepth 65536 in
theorem w_c6 : (Jvm.Cond.code ({ cls := "java/util/AbstractCollection", name := "<init>", desc := "()V" } : Jvm.MethodName) jdk_22_method_1_code (1 : Nat) (Option.none : Option Jvm.ClassFile.FieldType)).before args0 about1 = true := code_word (m := ⟨13, 0⟩) (meth := k13m0) (c := k13c0) (by decide +kernel) rfl rfl rfl (by decide +kernel)
set_option maxRecDepth 65536 in
theorem w_c7 : (Jvm.Cond.code ({ cls := "java/util/Collections", name := "unmodifiableList", desc := "(Ljava/util/List;)Ljava/util/List;" } : Jvm.MethodName) jdk_79_method_35_code (1 : Nat) (Option.some (Jvm.ClassFile.FieldType.object "java/util/List"))).before args0 about1 = true := code_word (m := ⟨20, 1⟩) (meth := k20m1) (c := k20c1) (by decide +kernel) rfl rfl rfl (by decide +kernel)
set_option maxRecDepth 65536 in
theorem w_c8 : (Jvm.Cond.code ({ cls := "java/util/Collections$UnmodifiableRandomAccessList", name := "<init>", desc := "(Ljava/util/List;)V" } : Jvm.MethodName) jdk_121_method_1_code (2 : Nat) (Option.none : Option Jvm.ClassFile.FieldType)).before args0 about1 = true := code_word (m := ⟨23, 0⟩) (meth := k23m0) (c := k23c0) (by decide +kernel) rfl rfl rfl (by decide +kernel)
set_option maxRecDepth 65536 in
theorem w_c9 : (Jvm.Cond.code ({ cls := "java/util/Collections$UnmodifiableList", name := "<init>", desc := "(Ljava/util/List;)V" } : Jvm.MethodName) jdk_120_method_1_code (2 : Nat) (Option.none : Option Jvm.ClassFile.FieldType)).before args0 about1 = true := code_word (m := ⟨22, 0⟩) (meth := k22m0) (c := k22c0) (by decide +kernel) rfl rfl rfl (by decide +kernel)
set_option maxRecDepth 65536 in
theorem w_c10 : (Jvm.Cond.code ({ cls := "java/util/Collections$UnmodifiableCollection", name := "<init>", desc := "(Ljava/util/Collection;)V" } : Jvm.MethodName) jdk_119_method_1_code (2 : Nat) (Option.none : Option Jvm.ClassFile.FieldType)).before args0 about1 = true := code_word (m := ⟨21, 0⟩) (meth := k21m0) (c := k21c0) (by decide +kernel) rfl rfl rfl (by decide +kernel)
set_option maxRecDepth 65536 in
theorem w_c11 : (Jvm.Cond.code ({ cls := "java/util/List", name := "of", desc := "()Ljava/util/List;" } : Jvm.MethodName) jdk_40_method_36_code (0 : Nat) (Option.some (Jvm.ClassFile.FieldType.object "java/util/List"))).before args0 about1 = true := code_word (m := ⟨15, 0⟩) (meth := k15m0) (c := k15c0) (by decide +kernel) rfl rfl rfl (by decide +kernel)
set_option maxRecDepth 65536 in
theorem w_c12 : (Jvm.Cond.code ({ cls := "com/example/catchline/catchline/Node", name := "textStart", desc := "()I" } : Jvm.MethodName) prog_43_method_16_code (1 : Nat) (Option.some Jvm.ClassFile.FieldType.int)).before args0 about1 = true := code_word (m := ⟨7, 3⟩) (meth := k7m3) (c := k7c3) (by decide +kernel) rfl rfl rfl (by decide +kernel)
set_option maxRecDepth 65536 in
theorem w_c13 : (Jvm.Cond.code ({ cls := "com/example/catchline/catchline/Node", name := "line", desc := "()I" } : Jvm.MethodName) prog_43_method_5_code (1 : Nat) (Option.some Jvm.ClassFile.FieldType.int)).before args0 about1 = true := code_word (m := ⟨7, 2⟩) (meth := k7m2) (c := k7c2) (by decide +kernel) rfl rfl rfl (by decide +kernel)
set_option maxRecDepth 65536 in
theorem w_c14 : (Jvm.Cond.code ({ cls := "com/example/catchline/catchline/Node", name := "kind", desc := "()Lcom/example/catchline/catchline/Kind;" } : Jvm.MethodName) prog_43_method_2_code (1 : Nat) (Option.some (Jvm.ClassFile.FieldType.object "com/example/catchline/catchline/Kind"))).before args0 about1 = true := code_word (m := ⟨7, 1⟩) (meth := k7m1) (c := k7c1) (by decide +kernel) rfl rfl rfl (by decide +kernel)
def codes1 : List Jvm.Cond := [Jvm.Cond.code x code maxLocals ret, Jvm.Cond.code ({ cls := "com/example/catchline/catchline/NodeTextStartPinLaw", name := "kindOf", desc := "(I)Lcom/example/catchline/catchline/Kind;" } : Jvm.MethodName) method_2_code (1 : Nat) (Option.some (Jvm.ClassFile.FieldType.object "com/example/catchline/catchline/Kind")), Jvm.Cond.code ({ cls := "com/example/catchline/catchline/Node", name := "<init>", desc := "(Lcom/example/catchline/catchline/Kind;Ljava/lang/String;Ljava/lang/String;IZ)V" } : Jvm.MethodName) prog_43_method_1_code (6 : Nat) (Option.none : Option Jvm.ClassFile.FieldType), Jvm.Cond.code ({ cls := "java/lang/Object", name := "<init>", desc := "()V" } : Jvm.MethodName) object_method_1_code (1 : Nat) (Option.none : Option Jvm.ClassFile.FieldType), Jvm.Cond.code ({ cls := "java/util/ArrayList", name := "<init>", desc := "()V" } : Jvm.MethodName) jdk_38_method_2_code (1 : Nat) (Option.none : Option Jvm.ClassFile.FieldType), Jvm.Cond.code ({ cls := "java/util/AbstractList", name := "<init>", desc := "()V" } : Jvm.MethodName) jdk_39_method_1_code (1 : Nat) (Option.none : Option Jvm.ClassFile.FieldType), Jvm.Cond.code ({ cls := "java/util/AbstractCollection", name := "<init>", desc := "()V" } : Jvm.MethodName) jdk_22_method_1_code (1 : Nat) (Option.none : Option Jvm.ClassFile.FieldType), Jvm.Cond.code ({ cls := "java/util/Collections", name := "unmodifiableList", desc := "(Ljava/util/List;)Ljava/util/List;" } : Jvm.MethodName) jdk_79_method_35_code (1 : Nat) (Option.some (Jvm.ClassFile.FieldType.object "java/util/List")), Jvm.Cond.code ({ cls := "java/util/Collections$UnmodifiableRandomAccessList", name := "<init>", desc := "(Ljava/util/List;)V" } : Jvm.MethodName) jdk_121_method_1_code (2 : Nat) (Option.none : Option Jvm.ClassFile.FieldType), Jvm.Cond.code ({ cls := "java/util/Collections$UnmodifiableList", name := "<init>", desc := "(Ljava/util/List;)V" } : Jvm.MethodName) jdk_120_method_1_code (2 : Nat) (Option.none : Option Jvm.ClassFile.FieldType), Jvm.Cond.code ({ cls := "java/util/Collections$UnmodifiableCollection", name := "<init>", desc := "(Ljava/util/Collection;)V" } : Jvm.MethodName) jdk_119_method_1_code (2 : Nat) (Option.none : Option Jvm.ClassFile.FieldType), Jvm.Cond.code ({ cls := "java/util/List", name := "of", desc := "()Ljava/util/List;" } : Jvm.MethodName) jdk_40_method_36_code (0 : Nat) (Option.some (Jvm.ClassFile.FieldType.object "java/util/List")), Jvm.Cond.code ({ cls := "com/example/catchline/catchline/Node", name := "textStart", desc := "()I" } : Jvm.MethodName) prog_43_method_16_code (1 : Nat) (Option.some Jvm.ClassFile.FieldType.int), Jvm.Cond.code ({ cls := "com/example/catchline/catchline/Node", name := "line", desc := "()I" } : Jvm.MethodName) prog_43_method_5_code (1 : Nat) (Option.some Jvm.ClassFile.FieldType.int), Jvm.Cond.code ({ cls := "com/example/catchline/catchline/Node", name := "kind", desc := "()Lcom/example/catchline/catchline/Kind;" } : Jvm.MethodName) prog_43_method_2_code (1 : Nat) (Option.some (Jvm.ClassFile.FieldType.object "com/example/catchline/catchline/Kind"))]
set_option maxRecDepth 65536 in
theorem codes_eq : words1.filter isCode = codes1 := rfl
theorem w_codes : ∀ c ∈ words1.filter isCode, c.before args0 about1 = true := by
  rw [codes_eq]
  intro c hc
  simp only [codes1, List.mem_cons, List.not_mem_nil, or_false] at hc
  rcases hc with rfl | rfl | rfl | rfl | rfl | rfl | rfl | rfl | rfl | rfl | rfl | rfl | rfl | rfl | rfl
  · exact w_c0
  · exact w_c1
  · exact w_c2
  · exact w_c3
  · exact w_c4
  · exact w_c5
  · exact w_c6
  · exact w_c7
  · exact w_c8
  · exact w_c9
  · exact w_c10
  · exact w_c11
  · exact w_c12
  · exact w_c13
  · exact w_c14
set_option maxRecDepth 65536 in
theorem w_t1 : (words1.take 24).all (fun c => isCode c || c.before args0 about1) = true := by decide +kernel
set_option maxRecDepth 65536 in
theorem w_t2 : ((words1.drop 24).take 24).all (fun c => isCode c || c.before args0 about1) = true := by decide +kernel
set_option maxRecDepth 65536 in
theorem w_t3 : (((words1.drop 24).drop 24).take 24).all (fun c => isCode c || c.before args0 about1) = true := by decide +kernel
set_option maxRecDepth 65536 in
theorem w_t4 : ((((words1.drop 24).drop 24).drop 24).take 24).all (fun c => isCode c || c.before args0 about1) = true := by decide +kernel
set_option maxRecDepth 65536 in
theorem w_t5 : (((((words1.drop 24).drop 24).drop 24).drop 24).take 24).all (fun c => isCode c || c.before args0 about1) = true := by decide +kernel
set_option maxRecDepth 65536 in
theorem w_t6 : ((((((words1.drop 24).drop 24).drop 24).drop 24).drop 24).take 24).all (fun c => isCode c || c.before args0 about1) = true := by decide +kernel
set_option maxRecDepth 65536 in
theorem w_t7 : ((((((words1.drop 24).drop 24).drop 24).drop 24).drop 24).drop 24).all (fun c => isCode c || c.before args0 about1) = true := by decide +kernel
theorem w_tables : (allAtoms (Jvm.Cond.code x code maxLocals ret :: tables_1)).before args0 about1 = true := by
  rw [allAtoms_all]
  show words1.all (fun c => c.before args0 about1) = true
  refine all_split ?_ w_codes
  rw [← List.take_append_drop 24 words1, List.all_append, w_t1, ← List.take_append_drop 24 (words1.drop 24), List.all_append, w_t2, ← List.take_append_drop 24 ((words1.drop 24).drop 24), List.all_append, w_t3, ← List.take_append_drop 24 (((words1.drop 24).drop 24).drop 24), List.all_append, w_t4, ← List.take_append_drop 24 ((((words1.drop 24).drop 24).drop 24).drop 24), List.all_append, w_t5, ← List.take_append_drop 24 (((((words1.drop 24).drop 24).drop 24).drop 24).drop 24), List.all_append, w_t6, w_t7]
  rfl
set_option maxRecDepth 65536 in
theorem w_rest : rest_1_c.before args0 about1 = true := by decide +kernel
set_option maxRecDepth 65536 in
theorem w_case : (Jvm.Cond.and given_1 narrow_1).before args0 about1 = true := by decide +kernel
theorem w_applies : (headSpec (Jvm.Cond.code x code maxLocals ret :: tables_1) room_1).applies x e0.platform about1 = true :=
  (Spec.applies_iff w_frames).mpr ⟨w_running, w_runnable, w_alone, w_named, w_hears, w_ripe, w_room, w_tables⟩
theorem atStart : AtStart classFile x code maxLocals ret World_1 tables_1 room_1 Calls_1 rest_1 Pre_1 launch0 p0 e0 about1 theMethod args0 below0 :=
  ⟨lists_1, trivial, launch0.admits_env _ _ _, launch0.least_env, fairChoices_fair.cas, fairChoices_fair.clock, w_frames, w_args, w_heap, w_applies, ⟨⟨19, k19, 3, by decide +kernel, rfl, rfl, _, rfl, rfl⟩, ⟨⟨22, k22, 4, by decide +kernel, rfl, rfl, _, rfl, rfl⟩, ⟨⟨23, k23, 5, by decide +kernel, rfl, rfl, _, rfl, rfl⟩, trivial⟩⟩⟩, w_rest, w_case⟩
end start1
theorem witness_1 : WitnessClaimed_1 := ⟨start1.p0, start1.e0, start1.about1, start1.theMethod, start1.args0, start1.below0, start1.atStart⟩
end Jvm.Pilot.@@N@@
