import JvmDerived
import JvmDerived.Pilot.@@N@@Statement
import JvmDerived.Pilot.@@N@@Code
set_option linter.unusedVariables false
set_option linter.unusedSimpArgs false
namespace Jvm.Pilot.@@N@@
open Jvm Jvm.ClassFile Sem Op Lib Jvm.Free Jvm.Stand Jvm.LawKit Jvm.RoadKit Bundle Jvm.Pilot.@@N@@.Jvm.D
/-! own_Done: from frame F on top of T the run comes to its end, and R holds there -/
def own_Done (tb : Tables) (e : Env) (below : List Frame) (R : Outcome → State → Prop) (T : State) (F : JFrame) : Prop :=
  ∃ s₂ o, Steps tb e below (T.setTop F) s₂ ∧ s₂.status = .running ∧ Ended s₂ below o ∧ R o s₂
def own_R (Qq : Option Value → Heap → List Loc → Prop) (s : State) (C S : Nat) : Outcome → State → Prop :=
  fun o U => ∃ v L, o = .returned v ∧ Qq v U.heap L ∧ FrameEnd s o U L C S
def own_RW (Qq : Option Value → Heap → List Loc → Prop) (s : State) (C S : Nat) : Outcome → State → Prop :=
  fun o U => ∃ v L, o = .returned v ∧ Qq v U.heap L ∧ ReturnedEndW s o U L C S
theorem own_st {tb : Tables} {e : Env} {below : List Frame} {R : Outcome → State → Prop} {T T' : State} {F F' : JFrame} (k : ∀ t, Steps tb e below (T'.setTop F') t → Steps tb e below (T.setTop F) t) (d : own_Done tb e below R T' F') : own_Done tb e below R T F := by
  obtain ⟨a, o, h1, h2⟩ := d
  exact ⟨a, o, k a h1, h2⟩
theorem own_tr {tb : Tables} {e : Env} {below : List Frame} {R : Outcome → State → Prop} {T T' : State} {F F' : JFrame} (k : Steps tb e below (T.setTop F) (T'.setTop F')) (d : own_Done tb e below R T' F') : own_Done tb e below R T F := by
  obtain ⟨a, o, h1, h2⟩ := d
  exact ⟨a, o, k.trans h1, h2⟩
section Own
variable {p : Program} {l : Launch} {e : Env} {Rm : Room} {s : State} {m : MethodId} {args : Array Value} {below : List Frame} {meth : Method} {c : Code} {T : State} {locs : List Loc} {cells slots : Nat}
theorem own_ret (X : Stand p l e Rm s m args below meth c T locs cells slots) (hx : p.tables.exec = Jvm.exec) {pc : Nat} {Ls : Array Slot} {w : Value} {t : FieldType} {i : Instr} {rest : List Value} (hret : meth.sig.returnType = some t) (hn : narrow t w = w)
    (hi : (i = .ireturn ∧ (t = .int ∨ t = .boolean ∨ t = .byte ∨ t = .char ∨ t = .short) ∧ ∃ z, w = .int z) ∨ (i = .lreturn ∧ t = .long ∧ ∃ z, w = .long z) ∨ (i = .dreturn ∧ t = .double ∧ ∃ z, w = .double z) ∨ (i = .freturn ∧ t = .float ∧ ∃ z, w = .float z) ∨ (i = .areturn ∧ t.isReference = true ∧ w.isRef = true))
    (hd : decode c.code pc = .ok (i, 1)) (hlk : meth.locks = false) {Qq : Option Value → Heap → List Loc → Prop} {C S : Nat} (hQ : Qq (some w) T.heap locs) (hc : cells ≤ C) (hs : slots ≤ S) :
    own_Done p.tables e below (own_R Qq s C S) T (mkF m pc Ls (w :: rest)) := by
  obtain ⟨fs, hr, hrun, hended, hW, hsame⟩ := X.leave (v := some w) (fun h => by rw [hret] at h; cases h) hlk
  exact ⟨_, _, retOut X hx hret hn hi hd hr, hrun, hended, _, _, rfl, hQ, ⟨_, rfl⟩, hW, hsame.mono hc hs⟩
theorem own_retI (X : Stand p l e Rm s m args below meth c T locs cells slots) (hx : p.tables.exec = Jvm.exec) {pc : Nat} {Ls : Array Slot} {z : Int32} {rest : List Value} (hret : meth.sig.returnType = some .int) (hd : decode c.code pc = .ok (.ireturn, 1)) (hlk : meth.locks = false)
    {Qq : Option Value → Heap → List Loc → Prop} {C S : Nat} (hQ : Qq (some (.int z)) T.heap locs) (hc : cells ≤ C) (hs : slots ≤ S) : own_Done p.tables e below (own_R Qq s C S) T (mkF m pc Ls (.int z :: rest)) :=
  own_ret X hx hret rfl (Or.inl ⟨rfl, Or.inl rfl, _, rfl⟩) hd hlk hQ hc hs
theorem own_retN (X : Stand p l e Rm s m args below meth c T locs cells slots) (hx : p.tables.exec = Jvm.exec) {pc : Nat} {Ls : Array Slot} {z : Int32} {t : FieldType} {rest : List Value} (hret : meth.sig.returnType = some t) (ht : t = .boolean ∨ t = .byte ∨ t = .char ∨ t = .short) (hn : narrow t (.int z) = .int z) (hd : decode c.code pc = .ok (.ireturn, 1)) (hlk : meth.locks = false)
    {Qq : Option Value → Heap → List Loc → Prop} {C S : Nat} (hQ : Qq (some (.int z)) T.heap locs) (hc : cells ≤ C) (hs : slots ≤ S) : own_Done p.tables e below (own_R Qq s C S) T (mkF m pc Ls (.int z :: rest)) :=
  own_ret X hx hret hn (Or.inl ⟨rfl, Or.inr ht, _, rfl⟩) hd hlk hQ hc hs
theorem own_retJ (X : Stand p l e Rm s m args below meth c T locs cells slots) (hx : p.tables.exec = Jvm.exec) {pc : Nat} {Ls : Array Slot} {z : Int64} {rest : List Value} (hret : meth.sig.returnType = some .long) (hd : decode c.code pc = .ok (.lreturn, 1)) (hlk : meth.locks = false)
    {Qq : Option Value → Heap → List Loc → Prop} {C S : Nat} (hQ : Qq (some (.long z)) T.heap locs) (hc : cells ≤ C) (hs : slots ≤ S) : own_Done p.tables e below (own_R Qq s C S) T (mkF m pc Ls (.long z :: rest)) :=
  own_ret X hx hret rfl (Or.inr (Or.inl ⟨rfl, rfl, _, rfl⟩)) hd hlk hQ hc hs
theorem own_narrow {t : FieldType} {v : Value} (h : v.isRef = true) : narrow t v = v := by
  rcases ref_cases h with rfl | ⟨a, rfl⟩ <;> cases t <;> rfl
theorem own_retA (X : Stand p l e Rm s m args below meth c T locs cells slots) (hx : p.tables.exec = Jvm.exec) {pc : Nat} {Ls : Array Slot} {w : Value} {t : FieldType} {rest : List Value} (hret : meth.sig.returnType = some t) (ht : t.isReference = true) (hw : w.isRef = true) (hd : decode c.code pc = .ok (.areturn, 1)) (hlk : meth.locks = false)
    {Qq : Option Value → Heap → List Loc → Prop} {C S : Nat} (hQ : Qq (some w) T.heap locs) (hc : cells ≤ C) (hs : slots ≤ S) : own_Done p.tables e below (own_R Qq s C S) T (mkF m pc Ls (w :: rest)) :=
  own_ret X hx hret (own_narrow hw) (Or.inr (Or.inr (Or.inr (Or.inr ⟨rfl, ht, hw⟩)))) hd hlk hQ hc hs
theorem own_retV (X : Stand p l e Rm s m args below meth c T locs cells slots) (hx : p.tables.exec = Jvm.exec) {pc : Nat} {Ls : Array Slot} (hret : meth.sig.returnType = none) (hd : decode c.code pc = .ok (.return_, 1)) (hlk : meth.locks = false)
    {Qq : Option Value → Heap → List Loc → Prop} {C S : Nat} (hQ : Qq none T.heap locs) (hc : cells ≤ C) (hs : slots ≤ S) : own_Done p.tables e below (own_R Qq s C S) T (mkF m pc Ls []) := by
  obtain ⟨fs, hr, hrun, hended, hW, hsame⟩ := X.leave (v := none) (fun _ => rfl) hlk
  exact ⟨_, _, X.returnOut hx hret hd hr, hrun, hended, _, _, rfl, hQ, ⟨_, rfl⟩, hW, hsame.mono hc hs⟩
theorem own_retW {vm₁ : Vm} (X : Stand p l e Rm (s.setVm vm₁) m args below meth c T locs cells slots) (hx : p.tables.exec = Jvm.exec) {pc : Nat} {Ls : Array Slot} {w : Value} {t : FieldType} {i : Instr} {rest : List Value} (hret : meth.sig.returnType = some t) (hn : narrow t w = w)
    (hi : (i = .ireturn ∧ (t = .int ∨ t = .boolean ∨ t = .byte ∨ t = .char ∨ t = .short) ∧ ∃ z, w = .int z) ∨ (i = .lreturn ∧ t = .long ∧ ∃ z, w = .long z) ∨ (i = .dreturn ∧ t = .double ∧ ∃ z, w = .double z) ∨ (i = .freturn ∧ t = .float ∧ ∃ z, w = .float z) ∨ (i = .areturn ∧ t.isReference = true ∧ w.isRef = true))
    {ks : Nat} (hS : s.Since vm₁ ks) (hk : ks ≤ T.heap.size) (hd : decode c.code pc = .ok (i, 1)) (hlk : meth.locks = false) {Qq : Option Value → Heap → List Loc → Prop} {C S : Nat} (hQ : Qq (some w) T.heap locs) (hc : cells ≤ C) (hs : slots ≤ S) :
    own_Done p.tables e below (own_RW Qq s C S) T (mkF m pc Ls (w :: rest)) := by
  obtain ⟨fs, hr, hrun, hended, hW⟩ := X.leaveW hS hk (v := some w) (fun h => by rw [hret] at h; cases h) hlk
  exact ⟨_, _, retOut X hx hret hn hi hd hr, hrun, hended, _, _, rfl, hQ, hW.1, hW.2.1, hW.2.2.1, hW.2.2.2.mono hc hs⟩
theorem own_retIW {vm₁ : Vm} (X : Stand p l e Rm (s.setVm vm₁) m args below meth c T locs cells slots) (hx : p.tables.exec = Jvm.exec) {pc : Nat} {Ls : Array Slot} {z : Int32} {rest : List Value} (hret : meth.sig.returnType = some .int) {ks : Nat} (hS : s.Since vm₁ ks) (hk : ks ≤ T.heap.size) (hd : decode c.code pc = .ok (.ireturn, 1)) (hlk : meth.locks = false)
    {Qq : Option Value → Heap → List Loc → Prop} {C S : Nat} (hQ : Qq (some (.int z)) T.heap locs) (hc : cells ≤ C) (hs : slots ≤ S) : own_Done p.tables e below (own_RW Qq s C S) T (mkF m pc Ls (.int z :: rest)) :=
  own_retW X hx hret rfl (Or.inl ⟨rfl, Or.inl rfl, _, rfl⟩) hS hk hd hlk hQ hc hs
theorem own_retNW {vm₁ : Vm} (X : Stand p l e Rm (s.setVm vm₁) m args below meth c T locs cells slots) (hx : p.tables.exec = Jvm.exec) {pc : Nat} {Ls : Array Slot} {z : Int32} {t : FieldType} {rest : List Value} (hret : meth.sig.returnType = some t) (ht : t = .boolean ∨ t = .byte ∨ t = .char ∨ t = .short) (hn : narrow t (.int z) = .int z) {ks : Nat} (hS : s.Since vm₁ ks) (hk : ks ≤ T.heap.size) (hd : decode c.code pc = .ok (.ireturn, 1)) (hlk : meth.locks = false)
    {Qq : Option Value → Heap → List Loc → Prop} {C S : Nat} (hQ : Qq (some (.int z)) T.heap locs) (hc : cells ≤ C) (hs : slots ≤ S) : own_Done p.tables e below (own_RW Qq s C S) T (mkF m pc Ls (.int z :: rest)) :=
  own_retW X hx hret hn (Or.inl ⟨rfl, Or.inr ht, _, rfl⟩) hS hk hd hlk hQ hc hs
theorem own_retJW {vm₁ : Vm} (X : Stand p l e Rm (s.setVm vm₁) m args below meth c T locs cells slots) (hx : p.tables.exec = Jvm.exec) {pc : Nat} {Ls : Array Slot} {z : Int64} {rest : List Value} (hret : meth.sig.returnType = some .long) {ks : Nat} (hS : s.Since vm₁ ks) (hk : ks ≤ T.heap.size) (hd : decode c.code pc = .ok (.lreturn, 1)) (hlk : meth.locks = false)
    {Qq : Option Value → Heap → List Loc → Prop} {C S : Nat} (hQ : Qq (some (.long z)) T.heap locs) (hc : cells ≤ C) (hs : slots ≤ S) : own_Done p.tables e below (own_RW Qq s C S) T (mkF m pc Ls (.long z :: rest)) :=
  own_retW X hx hret rfl (Or.inr (Or.inl ⟨rfl, rfl, _, rfl⟩)) hS hk hd hlk hQ hc hs
theorem own_mono (X : Stand p l e Rm s m args below meth c T locs cells slots) {C S : Nat} (hc : cells ≤ C) (hs : slots ≤ S) : Stand p l e Rm s m args below meth c T locs C S :=
  { X with same := X.same.mono hc hs }
end Own
theorem own_cat1 {v : Value} (h : v.isRef = true) : v.category = 1 := by rcases ref_cases h with rfl | ⟨a, rfl⟩ <;> rfl
theorem own_fits {t : FieldType} {v : Value} (ht : t.isReference = true) (h : v.isRef = true) : fits t v = true := by rcases ref_cases h with rfl | ⟨a, rfl⟩ <;> cases t <;> first | rfl | cases ht
theorem own_nb {z : Int32} (h : z = 0 ∨ z = 1) : narrow .boolean (.int z) = .int z := by rcases h with rfl | rfl <;> rfl
theorem own_fb {z : Int32} (h : z = 0 ∨ z = 1) : fits .boolean (.int z) = true := by rcases h with rfl | rfl <;> rfl
theorem own_ext_refl (h : Heap) : Ext h h := ⟨Nat.le_refl _, fun _ _ q => q⟩
theorem own_ext_trans {h h' h2 : Heap} (A : Ext h h') (B : Ext h' h2) : Ext h h2 := ⟨Nat.le_trans A.1 B.1, fun a c q => B.2 a c (A.2 a c q)⟩
theorem own_O_wr {Z : State} {h h' : Heap} {a : Addr} {sl : Nat} {v : Value} (A : Ext Z.heap h) (B : Wr h h' a sl v) (q : Z.heap.size ≤ a) : Ext Z.heap h' := (Old.wr (⟨rfl, A⟩ : Old Z Z.heap.size h) B q).2
theorem own_O_keep {Z : State} {h h' : Heap} {ws : List Addr} (A : Ext Z.heap h) (B : Keep h h' ws) (q : ∀ a ∈ ws, Z.heap.size ≤ a) : Ext Z.heap h' := (Old.keep (⟨rfl, A⟩ : Old Z Z.heap.size h) B q).2
theorem own_eq_int {args : Array Value} {s : State} {t : Term} {k : Int32} (h : (Jvm.Cond.eq t (Term.int k)).value args s none s [] = some true) : t.eval args s none [] s = some (.int k) := by
  obtain ⟨u, v, h1, h2, h3, h4⟩ := cmp_v (Or.inl h)
  have h5 : v = .int k := (Option.some.inj h2).symm
  subst h5
  obtain ⟨z, rfl⟩ := h4
  rw [h1]
  simp only [Jvm.Cond.value, h1, h2, Option.some.injEq, decide_eq_true_eq] at h
  rw [h]
theorem own_fld_int {args : Array Value} {s : State} {t : Term} {C n d : String} {a : Addr} {k : Int32} (ht : t.eval args s none [] s = some (.ref a)) (h : (Jvm.Cond.eq (Term.field t C n d) (Term.int k)).value args s none s [] = some true) : s.fieldOf? a C n d = some (.int k) :=
  (fld_at ht).symm.trans (own_eq_int h)
theorem own_eq_ref {args : Array Value} {s : State} {t u : Term} {a : Addr} (h : (Jvm.Cond.eq t u).value args s none s [] = some true) (hu : u.eval args s none [] s = some (.ref a)) : t.eval args s none [] s = some (.ref a) := by
  obtain ⟨x1, y1, h1, h2, h3, h4⟩ := cmp_v (Or.inl h)
  obtain rfl : y1 = .ref a := Option.some.inj (h2.symm.trans hu)
  have hr : x1.isRef = true := by cases x1 <;> first | rfl | (simp [Kin] at h3; done) | exact h3.1
  have e := gotT (eq_R h1 h2 hr rfl) h
  rw [h1, e]
theorem own_len {args : Array Value} {s : State} {t : Term} {a : Addr} {cl : Cell} {n : Int32} (h : (Term.length t).eval args s none [] s = some (.int n)) (ht : t.eval args s none [] s = some (.ref a)) (hc : s.heap[a]? = some cl) : cl.slots.size < 2 ^ 31 ∧ cl.slots.size.toInt32 = n := by
  obtain ⟨a', cell, e1, e2, e3⟩ := Term.length_spec h
  cases ht.symm.trans e1
  cases hc.symm.trans (State.arrayAt?_spec e2).1
  by_cases q : cl.slots.size < 2 ^ 31
  · exact ⟨q, (Value.int.inj e3).symm⟩
  · simp [Term.eval, ht, e2, q] at h
theorem own_initFor {args : Array Value} {s : State} {C n d : String} (h1 : (Jvm.Cond.initializedFor C n d).before args s = true) (h2 : (Jvm.Cond.laysStatic C n d).before args s = true) : (Jvm.Cond.initialized C).before args s = true := by
  obtain ⟨c, k, i, f, a, cell, q1, q2, -⟩ := Cond.laysStatic_spec h2
  have q3 := Cond.initializedFor_spec q2 h1
  have q4 := State.fieldFound?_class q2
  simp [Cond.before, Cond.holds, Cond.value, q1, q4, q3]
theorem own_ns_root {Z : State} {a0 : Array Value} {Ob K : String} {n : Nat} (w : (Jvm.Cond.noSuperclass Ob).before a0 Z = true) (wk : (Jvm.Cond.instantiable K n).before a0 Z = true) (hn : Ob ≠ K) : NS Z Ob K := by
  obtain ⟨c, k, h1, h2, h3, -, -⟩ := Cond.noSuperclass_spec w
  obtain ⟨t, k2, g1, -⟩ := Cond.instantiable_spec wk
  have ne := ids_ne h1 g1 hn
  refine ⟨c, t, h1, g1, fun fuel => ?_⟩
  cases fuel with
  | zero => rfl
  | succ f => simp [Vm.isSubclassAux, ne, h2, h3]
theorem own_ns_no {Z : State} {a0 : Array Value} {C Sp K : String} {n : Nat} (w : (Jvm.Cond.superclass C Sp).before a0 Z = true) (wk : (Jvm.Cond.instantiable K n).before a0 Z = true) (ns : NS Z C K) (hn : C ≠ K) : ∃ c t, Z.vm.findClass C = some c ∧ Z.vm.findClass K = some t ∧ Z.vm.assignable c t = false := by
  obtain ⟨c, t, h0, g0, n3⟩ := ns
  obtain ⟨p, k, kp, h1, h2, h3, h4, h5, -, h7⟩ := Cond.superclass_spec h0 w
  obtain ⟨t', k', g1, g2, g3, g4, -⟩ := Cond.instantiable_spec wk
  cases g0.symm.trans g1
  have g5 : k'.isInterface = false := by
    simp only [Bool.or_eq_false_iff] at g4
    exact g4.1
  have ne := ids_ne h0 g0 hn
  refine ⟨c, t, h0, g0, ?_⟩
  show Z.vm.assignableAux (255 + 1) c t = false
  simp [Vm.assignableAux, ne, h2, g2, h5, g3, g5, Vm.isSubclass, n3]
theorem own_ext_keep {h h' : Heap} (K : Keep h h' []) : Ext h h' := ⟨K.1, fun a c q => K.2.1 a c q (fun z => nomatch z)⟩
theorem own_sub_at {args : Array Value} {first s : State} {o : Option Outcome} {idx : List Nat} {t u : Term} {v w : Int32} (ha : t.eval args first o idx s = some (.int v)) (hb : u.eval args first o idx s = some (.int w)) : (Term.sub t u).eval args first o idx s = some (.int (v - w)) := by simp [Term.eval, ha, hb]
def own_Bx (Z : State) (h : Heap) (w : Value) (b q : Int32) : Prop := (w = .null ∧ b = 1) ∨ (b = 0 ∧ ∃ r : Addr, w = .ref r ∧ Exa Z h r "java/lang/Integer" ∧ Fld Z h r "java/lang/Integer" "value" "I" (.int q))
theorem own_Bx.ext {Z : State} {h h' : Heap} {w : Value} {b q : Int32} (B : own_Bx Z h w b q) (E : Ext h h') : own_Bx Z h' w b q := by
  rcases B with B | ⟨e, r, rfl, X, F⟩
  · exact Or.inl B
  · exact Or.inr ⟨e, r, rfl, X.ext E, F.ext E⟩
theorem own_Bx.keep {Z : State} {h h' : Heap} {w : Value} {b q : Int32} {a : Addr} {C : String} (B : own_Bx Z h w b q) (K : Keep h h' [a]) (X' : Exa Z h a C) (hn : "java/lang/Integer" ≠ C) : own_Bx Z h' w b q := by
  rcases B with B | ⟨e, r, rfl, X, F⟩
  · exact Or.inl B
  · exact Or.inr ⟨e, r, rfl, X.keep K, F.keep K (ninS (ne_exa X X' hn) nin0)⟩
theorem own_Bx.isRef {Z : State} {h : Heap} {w : Value} {b q : Int32} (B : own_Bx Z h w b q) : w.isRef = true := by
  rcases B with ⟨rfl, -⟩ | ⟨-, r, rfl, -, -⟩ <;> rfl
def own_eqv (b1 x1 b2 x2 : Int32) : Int32 := if b1 = 0 then (if b2 = 0 then (if x1 = x2 then 1 else 0) else 0) else (if b2 = 0 then 0 else 1)
theorem own_eqv_self (b z : Int32) : own_eqv b z b z = 1 := by
  unfold own_eqv
  by_cases h : b = 0 <;> simp [h]
theorem own_fld_uniq {Z : State} {h : Heap} {a : Addr} {C n d : String} {v w : Value} (F : Fld Z h a C n d v) (G : Fld Z h a C n d w) : v = w := by
  by_cases q : v = w
  · exact q
  · exact absurd rfl (F.ne G q)
theorem own_selects_private {args : Array Value} {s : State} {y : MethodName} {n : Nat} (hinst : (Jvm.Cond.instanceMethod y).before args s = true) (hpriv : (Jvm.Cond.privateMethod y).before args s = true) (hi : (Jvm.Cond.instantiable y.cls n).before args s = true) (hy : y.cls ≠ "java/lang/invoke/MethodHandle" ∧ y.cls ≠ "java/lang/invoke/VarHandle") : (Jvm.Cond.selects y.cls y y).before args s = true := by
  obtain ⟨mk, methM, hnamed, hmethM, hstM, habM⟩ := Cond.instanceMethod_spec hinst
  have hc := findClass_of_methodNamed hnamed
  obtain ⟨c, k, g1, g2, g3, g4, -⟩ := Cond.instantiable_spec hi
  cases hc.symm.trans g1
  have hf := State.methodFound?_of_named hnamed hy
  have hs : selectMethod {} s.vm mk.cls mk = .method mk := selectMethod_private hmethM (Cond.privateMethod_at hpriv mk methM hnamed hmethM)
  have g5 : k.isInterface = false := by
    simp only [Bool.or_eq_false_iff] at g4
    exact g4.1
  simp [Cond.before, Cond.holds, Cond.value, hc, hf, hnamed, hs, g2, g5]
def Ctx (Z : State) (a0 : Array Value) (w_VAL : Addr) (k_VAL : ClassId) (w_VAL0 : Addr) (w_VAL1 : Addr) (w_VAL2 : Addr) (w_VAL3 : Addr) (w_VAL4 : Addr) (w_VAL5 : Addr) (w_VAL6 : Addr) (w_VAL7 : Addr) : Prop := (∀ d ∈ tables_1, d.before a0 Z = true) ∧ Exa Z Z.heap w_VAL0 "com/example/turnleaf/turnleaf/token/KeyType$1" ∧ Exa Z Z.heap w_VAL1 "com/example/turnleaf/turnleaf/token/KeyType$2" ∧ Exa Z Z.heap w_VAL2 "com/example/turnleaf/turnleaf/token/KeyType$3" ∧ Exa Z Z.heap w_VAL3 "com/example/turnleaf/turnleaf/token/KeyType$4" ∧ Exa Z Z.heap w_VAL4 "com/example/turnleaf/turnleaf/token/KeyType$5" ∧ Exa Z Z.heap w_VAL5 "com/example/turnleaf/turnleaf/token/KeyType$6" ∧ Exa Z Z.heap w_VAL6 "com/example/turnleaf/turnleaf/token/KeyType$7" ∧ Exa Z Z.heap w_VAL7 "com/example/turnleaf/turnleaf/token/KeyType$8" ∧ Fld Z Z.heap w_VAL0 "com/example/turnleaf/turnleaf/token/KeyType" "tag" "I" (.int (8 : Int32)) ∧ Fld Z Z.heap w_VAL1 "com/example/turnleaf/turnleaf/token/KeyType" "tag" "I" (.int (1 : Int32)) ∧ Sta Z Z.heap "com/example/turnleaf/turnleaf/token/KeyType" "INTEGER" "Lcom/example/turnleaf/turnleaf/token/KeyType;" (.ref w_VAL1) ∧ Fld Z Z.heap w_VAL2 "com/example/turnleaf/turnleaf/token/KeyType" "tag" "I" (.int (2 : Int32)) ∧ Fld Z Z.heap w_VAL3 "com/example/turnleaf/turnleaf/token/KeyType" "tag" "I" (.int (3 : Int32)) ∧ Fld Z Z.heap w_VAL4 "com/example/turnleaf/turnleaf/token/KeyType" "tag" "I" (.int (4 : Int32)) ∧ Sta Z Z.heap "com/example/turnleaf/turnleaf/token/KeyType" "DECIMAL" "Lcom/example/turnleaf/turnleaf/token/KeyType;" (.ref w_VAL4) ∧ Fld Z Z.heap w_VAL5 "com/example/turnleaf/turnleaf/token/KeyType" "tag" "I" (.int (5 : Int32)) ∧ Fld Z Z.heap w_VAL6 "com/example/turnleaf/turnleaf/token/KeyType" "tag" "I" (.int (6 : Int32)) ∧ Fld Z Z.heap w_VAL7 "com/example/turnleaf/turnleaf/token/KeyType" "tag" "I" (.int (7 : Int32)) ∧ Sta Z Z.heap "com/example/turnleaf/turnleaf/token/KeyType" "NULL" "Lcom/example/turnleaf/turnleaf/token/KeyType;" (.ref w_VAL7) ∧ Sta Z Z.heap "com/example/turnleaf/turnleaf/token/KeyType" "SHORT" "Lcom/example/turnleaf/turnleaf/token/KeyType;" (.ref w_VAL0) ∧ Sta Z Z.heap "com/example/turnleaf/turnleaf/token/KeyType" "DOUBLE" "Lcom/example/turnleaf/turnleaf/token/KeyType;" (.ref w_VAL3) ∧ Sta Z Z.heap "com/example/turnleaf/turnleaf/token/KeyType" "LONG" "Lcom/example/turnleaf/turnleaf/token/KeyType;" (.ref w_VAL2) ∧ Sta Z Z.heap "com/example/turnleaf/turnleaf/token/KeyType" "TEXT" "Lcom/example/turnleaf/turnleaf/token/KeyType;" (.ref w_VAL5) ∧ Sta Z Z.heap "com/example/turnleaf/turnleaf/token/KeyType" "UUID" "Lcom/example/turnleaf/turnleaf/token/KeyType;" (.ref w_VAL6) ∧ Sta Z Z.heap "com/example/turnleaf/turnleaf/token/KeyType" "$VALUES" "[Lcom/example/turnleaf/turnleaf/token/KeyType;" (.ref w_VAL) ∧ Exa Z Z.heap w_VAL "[Lcom/example/turnleaf/turnleaf/token/KeyType;" ∧ Arv Z Z.heap w_VAL k_VAL (.object "com/example/turnleaf/turnleaf/token/KeyType") (8 : Int32) [(.ref w_VAL0), (.ref w_VAL1), (.ref w_VAL2), (.ref w_VAL3), (.ref w_VAL4), (.ref w_VAL5), (.ref w_VAL6), (.ref w_VAL7)] .null ∧ True
def Q0 (Z : State) (v : Option Value) (h : Heap) (L : List Loc) : Prop := v = some (.int (1 : Int32)) ∧ Fr Z.heap.size L
def QP (Z : State) (r : Value) (h0 : Heap) (v : Option Value) (h : Heap) (L : List Loc) : Prop := v = some r ∧ Fr Z.heap.size L ∧ h = h0
def QA (Z : State) (k_VAL : ClassId) (w_VAL0 w_VAL1 w_VAL2 w_VAL3 w_VAL4 w_VAL5 w_VAL6 w_VAL7 : Addr) (h0 : Heap) (v : Option Value) (h : Heap) (L : List Loc) : Prop := v = some (.ref h0.size) ∧ Fr Z.heap.size L ∧ Ext h0 h ∧ Arv Z h h0.size k_VAL (.object "com/example/turnleaf/turnleaf/token/KeyType") (8 : Int32) [(.ref w_VAL0), (.ref w_VAL1), (.ref w_VAL2), (.ref w_VAL3), (.ref w_VAL4), (.ref w_VAL5), (.ref w_VAL6), (.ref w_VAL7)] .null
def QE (Z : State) (r : Value) (h0 : Heap) (v : Option Value) (h : Heap) (L : List Loc) : Prop := v = some r ∧ Fr Z.heap.size L ∧ Ext h0 h
theorem own_last8 (k : Int32) (h0 : 0 ≤ k.toInt) (h1 : k.toInt < 8) (n0 : ¬ k = 0) (n1 : ¬ k = 1) (n2 : ¬ k = 2) (n3 : ¬ k = 3) (n4 : ¬ k = 4) (n5 : ¬ k = 5) (n6 : ¬ k = 6) : k = 7 := by
  have q : ∀ j : Int32, ¬ k = j → k.toInt ≠ j.toInt := fun j h e => h (Int32.toInt_inj.mp e)
  have m0 : k.toInt ≠ 0 := q 0 n0
  have m1 : k.toInt ≠ 1 := q 1 n1
  have m2 : k.toInt ≠ 2 := q 2 n2
  have m3 : k.toInt ≠ 3 := q 3 n3
  have m4 : k.toInt ≠ 4 := q 4 n4
  have m5 : k.toInt ≠ 5 := q 5 n5
  have m6 : k.toInt ≠ 6 := q 6 n6
  have e : k.toInt = (7 : Int32).toInt := by show k.toInt = 7; omega
  exact Int32.toInt_inj.mp e
theorem own_mask3 (z : Int32) : 0 ≤ (z &&& (7 : Int32)).toInt ∧ (z &&& (7 : Int32)).toInt < 8 := by
  have a := c_mask z 7 3 (by decide) (by decide)
  omega
theorem d2_0 : decode prog_36_method_1_code 0 = .ok (.getstatic 28, 3) := by decide +kernel
theorem d2_3 : decode prog_36_method_1_code 3 = .ok (.invokevirtual 32, 3) := by decide +kernel
theorem d2_6 : decode prog_36_method_1_code 6 = .ok (.checkcast 33, 3) := by decide +kernel
theorem d2_9 : decode prog_36_method_1_code 9 = .ok (.areturn, 1) := by decide +kernel
theorem pn_0 : plainName "com/example/turnleaf/turnleaf/token/KeyType" = true := by first | (simp [plainName, overriddenIn]; done) | decide +kernel
set_option maxRecDepth 65536 in
set_option maxHeartbeats 40000000 in
theorem rm2 (l : Launch) (Z : State) (a0 : Array Value) {w_VAL : Addr} {k_VAL : ClassId} {w_VAL0 : Addr} {w_VAL1 : Addr} {w_VAL2 : Addr} {w_VAL3 : Addr} {w_VAL4 : Addr} {w_VAL5 : Addr} {w_VAL6 : Addr} {w_VAL7 : Addr} (CX : Ctx Z a0 w_VAL k_VAL w_VAL0 w_VAL1 w_VAL2 w_VAL3 w_VAL4 w_VAL5 w_VAL6 w_VAL7) (ws : List Jvm.Cond)  (h0 : Heap) (O : Ext Z.heap h0)  :
    MetFree l (⟨"com/example/turnleaf/turnleaf/token/KeyType", "values", "()[Lcom/example/turnleaf/turnleaf/token/KeyType;"⟩ : MethodName) (head1 (Jvm.Cond.code (⟨"com/example/turnleaf/turnleaf/token/KeyType", "values", "()[Lcom/example/turnleaf/turnleaf/token/KeyType;"⟩ : MethodName) prog_36_method_1_code 0 (some (.array (.object "com/example/turnleaf/turnleaf/token/KeyType"))) :: ws) ({ frames := 1, cells := 1, slots := 8, locals := 14 } : Room)) (fun a U => a = #[] ∧ Z.Warmed39 U.vm ∧ U.heap = h0) (fun _ _ _ _ _ => True) (fun _ U o U' => ∃ v L, o = .returned v ∧ QA Z k_VAL w_VAL0 w_VAL1 w_VAL2 w_VAL3 w_VAL4 w_VAL5 w_VAL6 w_VAL7 h0 v U'.heap L ∧ FrameEnd U o U' L ({ frames := 1, cells := 1, slots := 8, locals := 14 } : Room).cells ({ frames := 1, cells := 1, slots := 8, locals := 14 } : Room).slots) := by
  refine MetFree.of_bodySF (plainFor_of_name pn_0) hisR ?_
  intro p e s m args below meth c s₁ Bd hml0 hP hK
  obtain ⟨rfl, hZ, hh⟩ := hP
  have CX0 := CX
  obtain ⟨hw, E_VAL0, E_VAL1, E_VAL2, E_VAL3, E_VAL4, E_VAL5, E_VAL6, E_VAL7, O_VAL0, O_VAL1, S_INTEGER, O_VAL2, O_VAL3, O_VAL4, S_DECIMAL, O_VAL5, O_VAL6, O_VAL7, S_NULL, S_SHORT, S_DOUBLE, S_LONG, S_TEXT, S_UUID, S_VAL, E_VAL, V_VAL, -⟩ := CX0
  have hx := Bd.exec
  have hby := Bd.bytes
  have hml : c.maxLocals = 0 := hml0
  have hown : s.vm.findClass "com/example/turnleaf/turnleaf/token/KeyType" = some m.cls := findClass_of_methodNamed Bd.named
  have hnm := (name_of_methodNamed Bd.named Bd.method).1
  have hlk : meth.locks = false := BodyLoose.notSynchronized Bd
  have X0 : Stand p l e ({ frames := 1, cells := 1, slots := 8, locals := 14 } : Room) s m #[] below meth c s₁ [] 0 0 := Stand.of_body Bd
  have e0 : s₁.heap = h0 := by rw [← hh, Bd.state]; rfl
  have N := Fr.nil Z.heap.size
  show own_Done p.tables e below (own_R (QA Z k_VAL w_VAL0 w_VAL1 w_VAL2 w_VAL3 w_VAL4 w_VAL5 w_VAL6 w_VAL7 h0) s 1 8) s₁ (entryFrame m #[] 0)
  refine own_st (T' := s₁) (F' := (mkF m 0 #[] [])) (fun t k => castTop (by first | rfl | (simp [entryFrame, mkF, argsToLocals, Value.category]; done)) k) ?_
  obtain ⟨T1, X1, e1, st1⟩ := getS2 X0 hx hZ hown (host := "") (Or.inl (hw _ (List.mem_of_getElem? (i := 7) rfl))) Via.refl e0 (S_VAL.ext O) (g := (mkF m 0 #[] [])) rfl (hb hby d2_0)
  refine own_st (T' := T1) (F' := (mkF m 3 #[] [(.ref w_VAL)])) st1 ?_
  obtain ⟨T2, h2, X2, e2, E2, A2, B2, st2⟩ := cloneH X1 hx hZ hown (hw _ (List.mem_of_getElem? (i := 9) rfl)) (hw _ (List.mem_of_getElem? (i := 10) rfl)) (hw _ (List.mem_of_getElem? (i := 14) rfl)) (hw _ (List.mem_of_getElem? (i := 12) rfl)) (hw _ (List.mem_of_getElem? (i := 13) rfl)) (hw _ (List.mem_of_getElem? (i := 15) rfl)) e1 ((V_VAL.ext O).arh) (E_VAL.ext O) (g := (mkF m 3 #[] [(.ref w_VAL)])) rfl (by rw [hml]; rfl) rfl (hb hby d2_3) (by decide) (W := 0) (by show 2 * 0 + _ ≤ _; exact Nat.le_of_eq rfl) (by decide) (cap := 8) (by decide) (by decide) (by decide)
  obtain ⟨b2, g2⟩ : ∃ z, z = h0.size := ⟨_, rfl⟩
  rw [← g2] at A2 B2 st2
  have g_b2 : Z.heap.size ≤ b2 := Nat.le_trans O.1 (Nat.le_of_eq g2.symm)
  have O := own_ext_trans O E2
  have V_b2 : Arv Z h2 b2 k_VAL (.object "com/example/turnleaf/turnleaf/token/KeyType") (8 : Int32) [(.ref w_VAL0), (.ref w_VAL1), (.ref w_VAL2), (.ref w_VAL3), (.ref w_VAL4), (.ref w_VAL5), (.ref w_VAL6), (.ref w_VAL7)] .null := A2
  have E_b2 := B2
  refine own_st (T' := T2) (F' := (mkF m 6 #[] [(.ref b2)])) st2 ?_
  obtain ⟨T3, X3, e3, st3⟩ := castY X2 hx hZ hown (hw _ (List.mem_of_getElem? (i := 17) rfl)) e2 (Ins.self E_b2) (g := (mkF m 6 #[] [(.ref b2)])) rfl rfl (hb hby d2_6)
  refine own_st (T' := T3) (F' := (mkF m 9 #[] [(.ref b2)])) st3 ?_
  exact own_retA X3 hx (t := (.array (.object "com/example/turnleaf/turnleaf/token/KeyType"))) Bd.returns rfl rfl (hb hby d2_9) hlk (by show QA Z k_VAL w_VAL0 w_VAL1 w_VAL2 w_VAL3 w_VAL4 w_VAL5 w_VAL6 w_VAL7 h0 _ T3.heap _; rw [e3]; exact by subst g2; exact ⟨rfl, N, E2, V_b2⟩) (by decide) (by decide)
theorem d1_0 : decode prog_36_method_8_code 0 = .ok (.invokestatic 55, 3) := by decide +kernel
theorem d1_3 : decode prog_36_method_8_code 3 = .ok (.astore_n 1, 1) := by decide +kernel
theorem d1_4 : decode prog_36_method_8_code 4 = .ok (.aload_n 1, 1) := by decide +kernel
theorem d1_5 : decode prog_36_method_8_code 5 = .ok (.arraylength, 1) := by decide +kernel
theorem d1_6 : decode prog_36_method_8_code 6 = .ok (.istore_n 2, 1) := by decide +kernel
theorem d1_7 : decode prog_36_method_8_code 7 = .ok (.iconst 0, 1) := by decide +kernel
theorem d1_8 : decode prog_36_method_8_code 8 = .ok (.istore_n 3, 1) := by decide +kernel
theorem d1_9 : decode prog_36_method_8_code 9 = .ok (.iload_n 3, 1) := by decide +kernel
theorem d1_10 : decode prog_36_method_8_code 10 = .ok (.iload_n 2, 1) := by decide +kernel
theorem d1_11 : decode prog_36_method_8_code 11 = .ok (.if_icmp .ge 26, 3) := by decide +kernel
theorem d1_14 : decode prog_36_method_8_code 14 = .ok (.aload_n 1, 1) := by decide +kernel
theorem d1_15 : decode prog_36_method_8_code 15 = .ok (.iload_n 3, 1) := by decide +kernel
theorem d1_16 : decode prog_36_method_8_code 16 = .ok (.aaload, 1) := by decide +kernel
theorem d1_17 : decode prog_36_method_8_code 17 = .ok (.astore 4, 2) := by decide +kernel
theorem d1_19 : decode prog_36_method_8_code 19 = .ok (.aload 4, 2) := by decide +kernel
theorem d1_21 : decode prog_36_method_8_code 21 = .ok (.getfield 47, 3) := by decide +kernel
theorem d1_24 : decode prog_36_method_8_code 24 = .ok (.iload_n 0, 1) := by decide +kernel
theorem d1_25 : decode prog_36_method_8_code 25 = .ok (.if_icmp .ne 6, 3) := by decide +kernel
theorem d1_28 : decode prog_36_method_8_code 28 = .ok (.aload 4, 2) := by decide +kernel
theorem d1_30 : decode prog_36_method_8_code 30 = .ok (.areturn, 1) := by decide +kernel
theorem d1_31 : decode prog_36_method_8_code 31 = .ok (.iinc 3 1, 3) := by decide +kernel
theorem d1_34 : decode prog_36_method_8_code 34 = .ok (.goto (-25), 3) := by decide +kernel
theorem d1_37 : decode prog_36_method_8_code 37 = .ok (.new 122, 3) := by decide +kernel
theorem d1_40 : decode prog_36_method_8_code 40 = .ok (.dup, 1) := by decide +kernel
theorem d1_41 : decode prog_36_method_8_code 41 = .ok (.iload_n 0, 1) := by decide +kernel
theorem d1_47 : decode prog_36_method_8_code 47 = .ok (.invokespecial 127, 3) := by decide +kernel
theorem d1_50 : decode prog_36_method_8_code 50 = .ok (.athrow, 1) := by decide +kernel
theorem pd_0 : parseMethodDescriptor "()[Lcom/example/turnleaf/turnleaf/token/KeyType;" = some ⟨[], some (.array (.object "com/example/turnleaf/turnleaf/token/KeyType"))⟩ := by decide +kernel
set_option maxRecDepth 65536 in
set_option maxHeartbeats 40000000 in
theorem rmO_1 (l : Launch) (Z : State) (a0 : Array Value) {w_VAL : Addr} {k_VAL : ClassId} {w_VAL0 : Addr} {w_VAL1 : Addr} {w_VAL2 : Addr} {w_VAL3 : Addr} {w_VAL4 : Addr} {w_VAL5 : Addr} {w_VAL6 : Addr} {w_VAL7 : Addr} (CX : Ctx Z a0 w_VAL k_VAL w_VAL0 w_VAL1 w_VAL2 w_VAL3 w_VAL4 w_VAL5 w_VAL6 w_VAL7) (ws : List Jvm.Cond)  (h0 : Heap) (O : Ext Z.heap h0)  :
    MetFree l (⟨"com/example/turnleaf/turnleaf/token/KeyType", "ofTag", "(I)Lcom/example/turnleaf/turnleaf/token/KeyType;"⟩ : MethodName) (head1 (Jvm.Cond.code (⟨"com/example/turnleaf/turnleaf/token/KeyType", "ofTag", "(I)Lcom/example/turnleaf/turnleaf/token/KeyType;"⟩ : MethodName) prog_36_method_8_code 5 (some (.object "com/example/turnleaf/turnleaf/token/KeyType")) :: ws) ({ frames := 2, cells := 1, slots := 8, locals := 25 } : Room)) (fun a U => a = #[(.int (1 : Int32))] ∧ Z.Warmed39 U.vm ∧ U.heap = h0) (fun _ _ _ _ _ => True) (fun _ U o U' => ∃ v L, o = .returned v ∧ QE Z (.ref w_VAL1) h0 v U'.heap L ∧ FrameEnd U o U' L ({ frames := 2, cells := 1, slots := 8, locals := 25 } : Room).cells ({ frames := 2, cells := 1, slots := 8, locals := 25 } : Room).slots) := by
  refine MetFree.of_bodySF (plainFor_of_name pn_0) hisR ?_
  intro p e s m args below meth c s₁ Bd hml0 hP hK
  obtain ⟨rfl, hZ, hh⟩ := hP
  have CX0 := CX
  obtain ⟨hw, E_VAL0, E_VAL1, E_VAL2, E_VAL3, E_VAL4, E_VAL5, E_VAL6, E_VAL7, O_VAL0, O_VAL1, S_INTEGER, O_VAL2, O_VAL3, O_VAL4, S_DECIMAL, O_VAL5, O_VAL6, O_VAL7, S_NULL, S_SHORT, S_DOUBLE, S_LONG, S_TEXT, S_UUID, S_VAL, E_VAL, V_VAL, -⟩ := CX0
  have hx := Bd.exec
  have hby := Bd.bytes
  have hml : c.maxLocals = 5 := hml0
  have hown : s.vm.findClass "com/example/turnleaf/turnleaf/token/KeyType" = some m.cls := findClass_of_methodNamed Bd.named
  have hnm := (name_of_methodNamed Bd.named Bd.method).1
  have hlk : meth.locks = false := BodyLoose.notSynchronized Bd
  have X0 : Stand p l e ({ frames := 2, cells := 1, slots := 8, locals := 25 } : Room) s m #[(.int (1 : Int32))] below meth c s₁ [] 0 0 := Stand.of_body Bd
  have e0 : s₁.heap = h0 := by rw [← hh, Bd.state]; rfl
  have N := Fr.nil Z.heap.size
  show own_Done p.tables e below (own_R (QE Z (.ref w_VAL1) h0) s 1 8) s₁ (entryFrame m #[(.int (1 : Int32))] 5)
  refine own_st (T' := s₁) (F' := (mkF m 0 #[.val (.int (1 : Int32)), .unset, .unset, .unset, .unset] [])) (fun t k => castTop (by first | rfl | (simp [entryFrame, mkF, argsToLocals, Value.category]; done)) k) ?_
  obtain ⟨v1, _, ⟨T1, L1, k1, n1⟩, -, X1, ⟨Lc1, hQ1, l1, y1, z1⟩, st1⟩ := Jvm.LawKit.callS X0 hx (y := (⟨"com/example/turnleaf/turnleaf/token/KeyType", "values", "()[Lcom/example/turnleaf/turnleaf/token/KeyType;"⟩ : MethodName)) hown (mvT hZ (hw _ (List.mem_of_getElem? (i := 4) rfl))) (mvT hZ (hw _ (List.mem_of_getElem? (i := 5) rfl))) (mvT hZ (hw _ (List.mem_of_getElem? (i := 2) rfl))) (mvT hZ (hw _ (List.mem_of_getElem? (i := 6) rfl))) (by decide) (backOf (W := 0) (rm2 l Z a0 CX [] h0 O) hZ (hw _ (List.mem_of_getElem? (i := 6) rfl)) (hw _ (List.mem_of_getElem? (i := 2) rfl)) (by decide) (by decide)) (g := (mkF m 0 #[.val (.int (1 : Int32)), .unset, .unset, .unset, .unset] [])) rfl (by rw [hml]; rfl) (argsL := []) (rest := []) (lenOf pd_0 rfl) rfl (by show 2 * 0 + _ ≤ _; exact Nat.le_of_eq rfl) (hb hby d1_0) (fun _ _ => ⟨rfl, e0, (by decide : 0 + 1 ≤ _), (by decide : 0 + 8 ≤ _)⟩)
  dsimp only [Pt.U, Pt.locs, Pt.cells, Pt.slots] at X1 l1 y1 z1 st1 hQ1
  subst l1 y1 z1
  obtain ⟨rfl, N1q, E1, V1⟩ := hQ1
  have N := Fr.app N N1q
  obtain ⟨b1, g1⟩ : ∃ z, z = h0.size := ⟨_, rfl⟩
  rw [← g1] at V1 st1
  have g_b1 : Z.heap.size ≤ b1 := Nat.le_trans O.1 (Nat.le_of_eq g1.symm)
  have O := own_ext_trans O E1
  have V_b1 := V1
  refine own_st (T' := T1) (F' := (mkF m 3 #[.val (.int (1 : Int32)), .unset, .unset, .unset, .unset] [(.ref b1)])) st1 ?_
  refine own_st (T' := T1) (F' := (mkF m 4 #[.val (.int (1 : Int32)), .val (.ref b1), .unset, .unset, .unset] [])) (fun t k => XS.astoreN X1.here hx rfl (hb hby d1_3) rfl rfl (l' := #[.val (.int (1 : Int32)), .val (.ref b1), .unset, .unset, .unset]) rfl k) ?_
  refine own_st (T' := T1) (F' := (mkF m 5 #[.val (.int (1 : Int32)), .val (.ref b1), .unset, .unset, .unset] [(.ref b1)])) (fun t k => XS.aloadN X1.here hx rfl (hb hby d1_4) rfl rfl k) ?_
  have V2 := V_b1
  obtain ⟨cl2, Ar2, qa2, Sa2, Na2, Ha2, Ga2⟩ := V2
  refine own_st (T' := T1) (F' := (mkF m 6 #[.val (.int (1 : Int32)), .val (.ref b1), .unset, .unset, .unset] [(.int (8 : Int32))])) (fun t k => X1.arraylength hx Ar2.1 (State.isArrayOf_alike hZ.alike Ar2.2.1) (g := (mkF m 5 #[.val (.int (1 : Int32)), .val (.ref b1), .unset, .unset, .unset] [(.ref b1)])) rfl rfl (hb hby d1_5) _ (by rw [(len_of Sa2 Na2)]; exact k)) ?_
  refine own_st (T' := T1) (F' := (mkF m 7 #[.val (.int (1 : Int32)), .val (.ref b1), .val (.int (8 : Int32)), .unset, .unset] [])) (fun t k => XS.istoreN X1.here hx rfl (hb hby d1_6) rfl (l' := #[.val (.int (1 : Int32)), .val (.ref b1), .val (.int (8 : Int32)), .unset, .unset]) rfl k) ?_
  refine own_st (T' := T1) (F' := (mkF m 8 #[.val (.int (1 : Int32)), .val (.ref b1), .val (.int (8 : Int32)), .unset, .unset] [(.int (0 : Int32))])) (fun t k => XS.iconst X1.here hx rfl (hb hby d1_7) k) ?_
  refine own_st (T' := T1) (F' := (mkF m 9 #[.val (.int (1 : Int32)), .val (.ref b1), .val (.int (8 : Int32)), .val (.int (0 : Int32)), .unset] [])) (fun t k => XS.istoreN X1.here hx rfl (hb hby d1_8) rfl (l' := #[.val (.int (1 : Int32)), .val (.ref b1), .val (.int (8 : Int32)), .val (.int (0 : Int32)), .unset]) rfl k) ?_
  refine own_st (T' := T1) (F' := (mkF m 10 #[.val (.int (1 : Int32)), .val (.ref b1), .val (.int (8 : Int32)), .val (.int (0 : Int32)), .unset] [(.int (0 : Int32))])) (fun t k => XS.iloadN X1.here hx rfl (hb hby d1_9) rfl k) ?_
  refine own_st (T' := T1) (F' := (mkF m 11 #[.val (.int (1 : Int32)), .val (.ref b1), .val (.int (8 : Int32)), .val (.int (0 : Int32)), .unset] [(.int (8 : Int32)), (.int (0 : Int32))])) (fun t k => XS.iloadN X1.here hx rfl (hb hby d1_10) rfl k) ?_
  refine own_st (T' := T1) (F' := (mkF m 14 #[.val (.int (1 : Int32)), .val (.ref b1), .val (.int (8 : Int32)), .val (.int (0 : Int32)), .unset] [])) (fun t k => XS.icmpNo X1.here hx rfl (hb hby d1_11) rfl (tlt (by decide : ((0 : Int32) < (8 : Int32)))).2.1 k) ?_
  refine own_st (T' := T1) (F' := (mkF m 15 #[.val (.int (1 : Int32)), .val (.ref b1), .val (.int (8 : Int32)), .val (.int (0 : Int32)), .unset] [(.ref b1)])) (fun t k => XS.aloadN X1.here hx rfl (hb hby d1_14) rfl rfl k) ?_
  refine own_st (T' := T1) (F' := (mkF m 16 #[.val (.int (1 : Int32)), .val (.ref b1), .val (.int (8 : Int32)), .val (.int (0 : Int32)), .unset] [(.int (0 : Int32)), (.ref b1)])) (fun t k => XS.iloadN X1.here hx rfl (hb hby d1_15) rfl k) ?_
  have V3 := V_b1
  obtain ⟨cl3, Ar3, qa3, Sa3, Na3, Ha3, Ga3⟩ := V3
  have hin3 : ¬ ((0 : Int32) < 0 ∨ cl3.slots.size ≤ ((0 : Int32)).toNatClampNeg) := inb_of Sa3 ⟨by decide, by decide⟩
  have hat3 : cl3.slots[((0 : Int32)).toNatClampNeg]? = some (.ref w_VAL0) := Has.at Ha3 hin3 rfl
  refine own_st (T' := T1) (F' := (mkF m 17 #[.val (.int (1 : Int32)), .val (.ref b1), .val (.int (8 : Int32)), .val (.int (0 : Int32)), .unset] [(.ref w_VAL0)])) (fun t k => X1.aaload hx (j := (0 : Int32)) (v := (.ref w_VAL0)) Ar3.1 (State.isArrayOf_alike hZ.alike Ar3.2.1) rfl Ar3.2.2 hin3 hat3 (g := (mkF m 16 #[.val (.int (1 : Int32)), .val (.ref b1), .val (.int (8 : Int32)), .val (.int (0 : Int32)), .unset] [(.int (0 : Int32)), (.ref b1)])) rfl rfl (hb hby d1_16) _ k) ?_
  refine own_st (T' := T1) (F' := (mkF m 19 #[.val (.int (1 : Int32)), .val (.ref b1), .val (.int (8 : Int32)), .val (.int (0 : Int32)), .val (.ref w_VAL0)] [])) (fun t k => XS.astore X1.here hx rfl (hb hby d1_17) rfl rfl (l' := #[.val (.int (1 : Int32)), .val (.ref b1), .val (.int (8 : Int32)), .val (.int (0 : Int32)), .val (.ref w_VAL0)]) rfl k) ?_
  refine own_st (T' := T1) (F' := (mkF m 21 #[.val (.int (1 : Int32)), .val (.ref b1), .val (.int (8 : Int32)), .val (.int (0 : Int32)), .val (.ref w_VAL0)] [(.ref w_VAL0)])) (fun t k => XS.aload X1.here hx rfl (hb hby d1_19) rfl rfl k) ?_
  obtain ⟨T4, X4, e4, st4⟩ := getF X1 hx hZ hown (host := "") (Or.inl (hw _ (List.mem_of_getElem? (i := 19) rfl))) Via.refl rfl (O_VAL0.ext O) (g := (mkF m 21 #[.val (.int (1 : Int32)), .val (.ref b1), .val (.int (8 : Int32)), .val (.int (0 : Int32)), .val (.ref w_VAL0)] [(.ref w_VAL0)])) rfl rfl (hb hby d1_21)
  refine own_st (T' := T4) (F' := (mkF m 24 #[.val (.int (1 : Int32)), .val (.ref b1), .val (.int (8 : Int32)), .val (.int (0 : Int32)), .val (.ref w_VAL0)] [(.int (8 : Int32))])) st4 ?_
  refine own_st (T' := T4) (F' := (mkF m 25 #[.val (.int (1 : Int32)), .val (.ref b1), .val (.int (8 : Int32)), .val (.int (0 : Int32)), .val (.ref w_VAL0)] [(.int (1 : Int32)), (.int (8 : Int32))])) (fun t k => XS.iloadN X4.here hx rfl (hb hby d1_24) rfl k) ?_
  refine own_st (T' := T4) (F' := (mkF m 31 #[.val (.int (1 : Int32)), .val (.ref b1), .val (.int (8 : Int32)), .val (.int (0 : Int32)), .val (.ref w_VAL0)] [])) (fun t k => XS.icmpYes X4.here hx rfl (pc0 := 25) (pc' := 31) rfl (hb hby d1_25) rfl (feq (by decide : ¬ ((8 : Int32) = (1 : Int32)))).2 (by decide) (by decide) k) ?_
  refine own_st (T' := T4) (F' := (mkF m 34 #[.val (.int (1 : Int32)), .val (.ref b1), .val (.int (8 : Int32)), .val (.int (1 : Int32)), .val (.ref w_VAL0)] [])) (fun t k => XS.iinc X4.here hx rfl (hb hby d1_31) rfl (l' := #[.val (.int (1 : Int32)), .val (.ref b1), .val (.int (8 : Int32)), .val (.int (1 : Int32)), .val (.ref w_VAL0)]) rfl k) ?_
  refine own_st (T' := T4) (F' := (mkF m 9 #[.val (.int (1 : Int32)), .val (.ref b1), .val (.int (8 : Int32)), .val (.int (1 : Int32)), .val (.ref w_VAL0)] [])) (fun t k => XS.goto X4.here hx rfl (pc0 := 34) (pc' := 9) rfl (hb hby d1_34) (by decide) (by decide) k) ?_
  refine own_st (T' := T4) (F' := (mkF m 10 #[.val (.int (1 : Int32)), .val (.ref b1), .val (.int (8 : Int32)), .val (.int (1 : Int32)), .val (.ref w_VAL0)] [(.int (1 : Int32))])) (fun t k => XS.iloadN X4.here hx rfl (hb hby d1_9) rfl k) ?_
  refine own_st (T' := T4) (F' := (mkF m 11 #[.val (.int (1 : Int32)), .val (.ref b1), .val (.int (8 : Int32)), .val (.int (1 : Int32)), .val (.ref w_VAL0)] [(.int (8 : Int32)), (.int (1 : Int32))])) (fun t k => XS.iloadN X4.here hx rfl (hb hby d1_10) rfl k) ?_
  refine own_st (T' := T4) (F' := (mkF m 14 #[.val (.int (1 : Int32)), .val (.ref b1), .val (.int (8 : Int32)), .val (.int (1 : Int32)), .val (.ref w_VAL0)] [])) (fun t k => XS.icmpNo X4.here hx rfl (hb hby d1_11) rfl (tlt (by decide : ((1 : Int32) < (8 : Int32)))).2.1 k) ?_
  refine own_st (T' := T4) (F' := (mkF m 15 #[.val (.int (1 : Int32)), .val (.ref b1), .val (.int (8 : Int32)), .val (.int (1 : Int32)), .val (.ref w_VAL0)] [(.ref b1)])) (fun t k => XS.aloadN X4.here hx rfl (hb hby d1_14) rfl rfl k) ?_
  refine own_st (T' := T4) (F' := (mkF m 16 #[.val (.int (1 : Int32)), .val (.ref b1), .val (.int (8 : Int32)), .val (.int (1 : Int32)), .val (.ref w_VAL0)] [(.int (1 : Int32)), (.ref b1)])) (fun t k => XS.iloadN X4.here hx rfl (hb hby d1_15) rfl k) ?_
  have V5 := V_b1
  obtain ⟨cl5, Ar5, qa5, Sa5, Na5, Ha5, Ga5⟩ := V5
  have hin5 : ¬ ((1 : Int32) < 0 ∨ cl5.slots.size ≤ ((1 : Int32)).toNatClampNeg) := inb_of Sa5 ⟨by decide, by decide⟩
  have hat5 : cl5.slots[((1 : Int32)).toNatClampNeg]? = some (.ref w_VAL1) := Has.at Ha5 hin5 rfl
  refine own_st (T' := T4) (F' := (mkF m 17 #[.val (.int (1 : Int32)), .val (.ref b1), .val (.int (8 : Int32)), .val (.int (1 : Int32)), .val (.ref w_VAL0)] [(.ref w_VAL1)])) (fun t k => X4.aaload hx (j := (1 : Int32)) (v := (.ref w_VAL1)) (by rw [e4]; exact Ar5.1) (State.isArrayOf_alike hZ.alike Ar5.2.1) rfl Ar5.2.2 hin5 hat5 (g := (mkF m 16 #[.val (.int (1 : Int32)), .val (.ref b1), .val (.int (8 : Int32)), .val (.int (1 : Int32)), .val (.ref w_VAL0)] [(.int (1 : Int32)), (.ref b1)])) rfl rfl (hb hby d1_16) _ k) ?_
  refine own_st (T' := T4) (F' := (mkF m 19 #[.val (.int (1 : Int32)), .val (.ref b1), .val (.int (8 : Int32)), .val (.int (1 : Int32)), .val (.ref w_VAL1)] [])) (fun t k => XS.astore X4.here hx rfl (hb hby d1_17) rfl rfl (l' := #[.val (.int (1 : Int32)), .val (.ref b1), .val (.int (8 : Int32)), .val (.int (1 : Int32)), .val (.ref w_VAL1)]) rfl k) ?_
  refine own_st (T' := T4) (F' := (mkF m 21 #[.val (.int (1 : Int32)), .val (.ref b1), .val (.int (8 : Int32)), .val (.int (1 : Int32)), .val (.ref w_VAL1)] [(.ref w_VAL1)])) (fun t k => XS.aload X4.here hx rfl (hb hby d1_19) rfl rfl k) ?_
  obtain ⟨T6, X6, e6, st6⟩ := getF X4 hx hZ hown (host := "") (Or.inl (hw _ (List.mem_of_getElem? (i := 19) rfl))) Via.refl e4 (O_VAL1.ext O) (g := (mkF m 21 #[.val (.int (1 : Int32)), .val (.ref b1), .val (.int (8 : Int32)), .val (.int (1 : Int32)), .val (.ref w_VAL1)] [(.ref w_VAL1)])) rfl rfl (hb hby d1_21)
  refine own_st (T' := T6) (F' := (mkF m 24 #[.val (.int (1 : Int32)), .val (.ref b1), .val (.int (8 : Int32)), .val (.int (1 : Int32)), .val (.ref w_VAL1)] [(.int (1 : Int32))])) st6 ?_
  refine own_st (T' := T6) (F' := (mkF m 25 #[.val (.int (1 : Int32)), .val (.ref b1), .val (.int (8 : Int32)), .val (.int (1 : Int32)), .val (.ref w_VAL1)] [(.int (1 : Int32)), (.int (1 : Int32))])) (fun t k => XS.iloadN X6.here hx rfl (hb hby d1_24) rfl k) ?_
  refine own_st (T' := T6) (F' := (mkF m 28 #[.val (.int (1 : Int32)), .val (.ref b1), .val (.int (8 : Int32)), .val (.int (1 : Int32)), .val (.ref w_VAL1)] [])) (fun t k => XS.icmpNo X6.here hx rfl (hb hby d1_25) rfl (teq rfl).2 k) ?_
  refine own_st (T' := T6) (F' := (mkF m 30 #[.val (.int (1 : Int32)), .val (.ref b1), .val (.int (8 : Int32)), .val (.int (1 : Int32)), .val (.ref w_VAL1)] [(.ref w_VAL1)])) (fun t k => XS.aload X6.here hx rfl (hb hby d1_28) rfl rfl k) ?_
  exact own_retA X6 hx (t := (.object "com/example/turnleaf/turnleaf/token/KeyType")) Bd.returns rfl rfl (hb hby d1_30) hlk (by show QE Z (.ref w_VAL1) h0 _ T6.heap _; rw [e6]; exact ⟨rfl, N, E1⟩) (by decide) (by decide)
theorem d3_0 : decode method_2_code 0 = .ok (.iload_n 0, 1) := by decide +kernel
theorem d3_1 : decode method_2_code 1 = .ok (.iconst 1, 1) := by decide +kernel
theorem d3_2 : decode method_2_code 2 = .ok (.if_icmp .ne 7, 3) := by decide +kernel
theorem d3_5 : decode method_2_code 5 = .ok (.getstatic 7, 3) := by decide +kernel
theorem d3_8 : decode method_2_code 8 = .ok (.areturn, 1) := by decide +kernel
theorem d3_9 : decode method_2_code 9 = .ok (.iload_n 0, 1) := by decide +kernel
theorem d3_10 : decode method_2_code 10 = .ok (.iconst 2, 1) := by decide +kernel
theorem d3_11 : decode method_2_code 11 = .ok (.if_icmp .ne 7, 3) := by decide +kernel
theorem d3_14 : decode method_2_code 14 = .ok (.getstatic 13, 3) := by decide +kernel
theorem d3_17 : decode method_2_code 17 = .ok (.areturn, 1) := by decide +kernel
theorem d3_18 : decode method_2_code 18 = .ok (.iload_n 0, 1) := by decide +kernel
theorem d3_19 : decode method_2_code 19 = .ok (.iconst 3, 1) := by decide +kernel
theorem d3_20 : decode method_2_code 20 = .ok (.if_icmp .ne 7, 3) := by decide +kernel
theorem d3_23 : decode method_2_code 23 = .ok (.getstatic 16, 3) := by decide +kernel
theorem d3_26 : decode method_2_code 26 = .ok (.areturn, 1) := by decide +kernel
theorem d3_27 : decode method_2_code 27 = .ok (.iload_n 0, 1) := by decide +kernel
theorem d3_28 : decode method_2_code 28 = .ok (.iconst 4, 1) := by decide +kernel
theorem d3_29 : decode method_2_code 29 = .ok (.if_icmp .ne 7, 3) := by decide +kernel
theorem d3_32 : decode method_2_code 32 = .ok (.getstatic 19, 3) := by decide +kernel
theorem d3_35 : decode method_2_code 35 = .ok (.areturn, 1) := by decide +kernel
theorem d3_36 : decode method_2_code 36 = .ok (.iload_n 0, 1) := by decide +kernel
theorem d3_37 : decode method_2_code 37 = .ok (.iconst 5, 1) := by decide +kernel
theorem d3_38 : decode method_2_code 38 = .ok (.if_icmp .ne 7, 3) := by decide +kernel
theorem d3_41 : decode method_2_code 41 = .ok (.getstatic 22, 3) := by decide +kernel
theorem d3_44 : decode method_2_code 44 = .ok (.areturn, 1) := by decide +kernel
theorem d3_45 : decode method_2_code 45 = .ok (.iload_n 0, 1) := by decide +kernel
theorem d3_46 : decode method_2_code 46 = .ok (.bipush 6, 2) := by decide +kernel
theorem d3_48 : decode method_2_code 48 = .ok (.if_icmp .ne 7, 3) := by decide +kernel
theorem d3_51 : decode method_2_code 51 = .ok (.getstatic 25, 3) := by decide +kernel
theorem d3_54 : decode method_2_code 54 = .ok (.areturn, 1) := by decide +kernel
theorem d3_55 : decode method_2_code 55 = .ok (.iload_n 0, 1) := by decide +kernel
theorem d3_56 : decode method_2_code 56 = .ok (.bipush 7, 2) := by decide +kernel
theorem d3_58 : decode method_2_code 58 = .ok (.if_icmp .ne 7, 3) := by decide +kernel
theorem d3_61 : decode method_2_code 61 = .ok (.getstatic 28, 3) := by decide +kernel
theorem d3_64 : decode method_2_code 64 = .ok (.areturn, 1) := by decide +kernel
theorem d3_65 : decode method_2_code 65 = .ok (.getstatic 31, 3) := by decide +kernel
theorem d3_68 : decode method_2_code 68 = .ok (.areturn, 1) := by decide +kernel
theorem pn_1 : plainName "com/example/turnleaf/turnleaf/token/KeyTypeOfTagPinLaw" = true := by first | (simp [plainName, overriddenIn]; done) | decide +kernel
set_option maxRecDepth 65536 in
set_option maxHeartbeats 40000000 in
theorem rmX_1 (l : Launch) (Z : State) (a0 : Array Value) {w_VAL : Addr} {k_VAL : ClassId} {w_VAL0 : Addr} {w_VAL1 : Addr} {w_VAL2 : Addr} {w_VAL3 : Addr} {w_VAL4 : Addr} {w_VAL5 : Addr} {w_VAL6 : Addr} {w_VAL7 : Addr} (CX : Ctx Z a0 w_VAL k_VAL w_VAL0 w_VAL1 w_VAL2 w_VAL3 w_VAL4 w_VAL5 w_VAL6 w_VAL7) (ws : List Jvm.Cond)  (h0 : Heap) (O : Ext Z.heap h0)  :
    MetFree l (⟨"com/example/turnleaf/turnleaf/token/KeyTypeOfTagPinLaw", "expected", "(I)Lcom/example/turnleaf/turnleaf/token/KeyType;"⟩ : MethodName) (head1 (Jvm.Cond.code (⟨"com/example/turnleaf/turnleaf/token/KeyTypeOfTagPinLaw", "expected", "(I)Lcom/example/turnleaf/turnleaf/token/KeyType;"⟩ : MethodName) method_2_code 1 (some (.object "com/example/turnleaf/turnleaf/token/KeyType")) :: ws) ({ frames := 0, cells := 0, slots := 0, locals := 0 } : Room)) (fun a U => a = #[(.int (1 : Int32))] ∧ Z.Warmed39 U.vm ∧ U.heap = h0) (fun _ _ _ _ _ => True) (fun _ U o U' => ∃ v L, o = .returned v ∧ QP Z (.ref w_VAL1) h0 v U'.heap L ∧ FrameEnd U o U' L ({ frames := 0, cells := 0, slots := 0, locals := 0 } : Room).cells ({ frames := 0, cells := 0, slots := 0, locals := 0 } : Room).slots) := by
  refine MetFree.of_bodySF (plainFor_of_name pn_1) hisR ?_
  intro p e s m args below meth c s₁ Bd hml0 hP hK
  obtain ⟨rfl, hZ, hh⟩ := hP
  have CX0 := CX
  obtain ⟨hw, E_VAL0, E_VAL1, E_VAL2, E_VAL3, E_VAL4, E_VAL5, E_VAL6, E_VAL7, O_VAL0, O_VAL1, S_INTEGER, O_VAL2, O_VAL3, O_VAL4, S_DECIMAL, O_VAL5, O_VAL6, O_VAL7, S_NULL, S_SHORT, S_DOUBLE, S_LONG, S_TEXT, S_UUID, S_VAL, E_VAL, V_VAL, -⟩ := CX0
  have hx := Bd.exec
  have hby := Bd.bytes
  have hml : c.maxLocals = 1 := hml0
  have hown : s.vm.findClass "com/example/turnleaf/turnleaf/token/KeyTypeOfTagPinLaw" = some m.cls := findClass_of_methodNamed Bd.named
  have hnm := (name_of_methodNamed Bd.named Bd.method).1
  have hlk : meth.locks = false := BodyLoose.notSynchronized Bd
  have X0 : Stand p l e ({ frames := 0, cells := 0, slots := 0, locals := 0 } : Room) s m #[(.int (1 : Int32))] below meth c s₁ [] 0 0 := Stand.of_body Bd
  have e0 : s₁.heap = h0 := by rw [← hh, Bd.state]; rfl
  have N := Fr.nil Z.heap.size
  show own_Done p.tables e below (own_R (QP Z (.ref w_VAL1) h0) s 0 0) s₁ (entryFrame m #[(.int (1 : Int32))] 1)
  refine own_st (T' := s₁) (F' := (mkF m 0 #[.val (.int (1 : Int32))] [])) (fun t k => castTop (by first | rfl | (simp [entryFrame, mkF, argsToLocals, Value.category]; done)) k) ?_
  refine own_st (T' := s₁) (F' := (mkF m 1 #[.val (.int (1 : Int32))] [(.int (1 : Int32))])) (fun t k => XS.iloadN X0.here hx rfl (hb hby d3_0) rfl k) ?_
  refine own_st (T' := s₁) (F' := (mkF m 2 #[.val (.int (1 : Int32))] [(.int (1 : Int32)), (.int (1 : Int32))])) (fun t k => XS.iconst X0.here hx rfl (hb hby d3_1) k) ?_
  refine own_st (T' := s₁) (F' := (mkF m 5 #[.val (.int (1 : Int32))] [])) (fun t k => XS.icmpNo X0.here hx rfl (hb hby d3_2) rfl (teq rfl).2 k) ?_
  obtain ⟨T1, X1, e1, st1⟩ := getS2 X0 hx hZ hown (host := "") (Or.inl (hw _ (List.mem_of_getElem? (i := 26) rfl))) Via.refl e0 (S_INTEGER.ext O) (g := (mkF m 5 #[.val (.int (1 : Int32))] [])) rfl (hb hby d3_5)
  refine own_st (T' := T1) (F' := (mkF m 8 #[.val (.int (1 : Int32))] [(.ref w_VAL1)])) st1 ?_
  exact own_retA X1 hx (t := (.object "com/example/turnleaf/turnleaf/token/KeyType")) Bd.returns rfl rfl (hb hby d3_8) hlk (by show QP Z (.ref w_VAL1) h0 _ T1.heap _; rw [e1]; exact ⟨rfl, N, rfl⟩) (by decide) (by decide)
set_option maxRecDepth 65536 in
set_option maxHeartbeats 40000000 in
theorem rmO_2 (l : Launch) (Z : State) (a0 : Array Value) {w_VAL : Addr} {k_VAL : ClassId} {w_VAL0 : Addr} {w_VAL1 : Addr} {w_VAL2 : Addr} {w_VAL3 : Addr} {w_VAL4 : Addr} {w_VAL5 : Addr} {w_VAL6 : Addr} {w_VAL7 : Addr} (CX : Ctx Z a0 w_VAL k_VAL w_VAL0 w_VAL1 w_VAL2 w_VAL3 w_VAL4 w_VAL5 w_VAL6 w_VAL7) (ws : List Jvm.Cond)  (h0 : Heap) (O : Ext Z.heap h0)  :
    MetFree l (⟨"com/example/turnleaf/turnleaf/token/KeyType", "ofTag", "(I)Lcom/example/turnleaf/turnleaf/token/KeyType;"⟩ : MethodName) (head1 (Jvm.Cond.code (⟨"com/example/turnleaf/turnleaf/token/KeyType", "ofTag", "(I)Lcom/example/turnleaf/turnleaf/token/KeyType;"⟩ : MethodName) prog_36_method_8_code 5 (some (.object "com/example/turnleaf/turnleaf/token/KeyType")) :: ws) ({ frames := 2, cells := 1, slots := 8, locals := 25 } : Room)) (fun a U => a = #[(.int (2 : Int32))] ∧ Z.Warmed39 U.vm ∧ U.heap = h0) (fun _ _ _ _ _ => True) (fun _ U o U' => ∃ v L, o = .returned v ∧ QE Z (.ref w_VAL2) h0 v U'.heap L ∧ FrameEnd U o U' L ({ frames := 2, cells := 1, slots := 8, locals := 25 } : Room).cells ({ frames := 2, cells := 1, slots := 8, locals := 25 } : Room).slots) := by
  refine MetFree.of_bodySF (plainFor_of_name pn_0) hisR ?_
  intro p e s m args below meth c s₁ Bd hml0 hP hK
  obtain ⟨rfl, hZ, hh⟩ := hP
  have CX0 := CX
  obtain ⟨hw, E_VAL0, E_VAL1, E_VAL2, E_VAL3, E_VAL4, E_VAL5, E_VAL6, E_VAL7, O_VAL0, O_VAL1, S_INTEGER, O_VAL2, O_VAL3, O_VAL4, S_DECIMAL, O_VAL5, O_VAL6, O_VAL7, S_NULL, S_SHORT, S_DOUBLE, S_LONG, S_TEXT, S_UUID, S_VAL, E_VAL, V_VAL, -⟩ := CX0
  have hx := Bd.exec
  have hby := Bd.bytes
  have hml : c.maxLocals = 5 := hml0
  have hown : s.vm.findClass "com/example/turnleaf/turnleaf/token/KeyType" = some m.cls := findClass_of_methodNamed Bd.named
  have hnm := (name_of_methodNamed Bd.named Bd.method).1
  have hlk : meth.locks = false := BodyLoose.notSynchronized Bd
  have X0 : Stand p l e ({ frames := 2, cells := 1, slots := 8, locals := 25 } : Room) s m #[(.int (2 : Int32))] below meth c s₁ [] 0 0 := Stand.of_body Bd
  have e0 : s₁.heap = h0 := by rw [← hh, Bd.state]; rfl
  have N := Fr.nil Z.heap.size
  show own_Done p.tables e below (own_R (QE Z (.ref w_VAL2) h0) s 1 8) s₁ (entryFrame m #[(.int (2 : Int32))] 5)
  refine own_st (T' := s₁) (F' := (mkF m 0 #[.val (.int (2 : Int32)), .unset, .unset, .unset, .unset] [])) (fun t k => castTop (by first | rfl | (simp [entryFrame, mkF, argsToLocals, Value.category]; done)) k) ?_
  obtain ⟨v1, _, ⟨T1, L1, k1, n1⟩, -, X1, ⟨Lc1, hQ1, l1, y1, z1⟩, st1⟩ := Jvm.LawKit.callS X0 hx (y := (⟨"com/example/turnleaf/turnleaf/token/KeyType", "values", "()[Lcom/example/turnleaf/turnleaf/token/KeyType;"⟩ : MethodName)) hown (mvT hZ (hw _ (List.mem_of_getElem? (i := 4) rfl))) (mvT hZ (hw _ (List.mem_of_getElem? (i := 5) rfl))) (mvT hZ (hw _ (List.mem_of_getElem? (i := 2) rfl))) (mvT hZ (hw _ (List.mem_of_getElem? (i := 6) rfl))) (by decide) (backOf (W := 0) (rm2 l Z a0 CX [] h0 O) hZ (hw _ (List.mem_of_getElem? (i := 6) rfl)) (hw _ (List.mem_of_getElem? (i := 2) rfl)) (by decide) (by decide)) (g := (mkF m 0 #[.val (.int (2 : Int32)), .unset, .unset, .unset, .unset] [])) rfl (by rw [hml]; rfl) (argsL := []) (rest := []) (lenOf pd_0 rfl) rfl (by show 2 * 0 + _ ≤ _; exact Nat.le_of_eq rfl) (hb hby d1_0) (fun _ _ => ⟨rfl, e0, (by decide : 0 + 1 ≤ _), (by decide : 0 + 8 ≤ _)⟩)
  dsimp only [Pt.U, Pt.locs, Pt.cells, Pt.slots] at X1 l1 y1 z1 st1 hQ1
  subst l1 y1 z1
  obtain ⟨rfl, N1q, E1, V1⟩ := hQ1
  have N := Fr.app N N1q
  obtain ⟨b1, g1⟩ : ∃ z, z = h0.size := ⟨_, rfl⟩
  rw [← g1] at V1 st1
  have g_b1 : Z.heap.size ≤ b1 := Nat.le_trans O.1 (Nat.le_of_eq g1.symm)
  have O := own_ext_trans O E1
  have V_b1 := V1
  refine own_st (T' := T1) (F' := (mkF m 3 #[.val (.int (2 : Int32)), .unset, .unset, .unset, .unset] [(.ref b1)])) st1 ?_
  refine own_st (T' := T1) (F' := (mkF m 4 #[.val (.int (2 : Int32)), .val (.ref b1), .unset, .unset, .unset] [])) (fun t k => XS.astoreN X1.here hx rfl (hb hby d1_3) rfl rfl (l' := #[.val (.int (2 : Int32)), .val (.ref b1), .unset, .unset, .unset]) rfl k) ?_
  refine own_st (T' := T1) (F' := (mkF m 5 #[.val (.int (2 : Int32)), .val (.ref b1), .unset, .unset, .unset] [(.ref b1)])) (fun t k => XS.aloadN X1.here hx rfl (hb hby d1_4) rfl rfl k) ?_
  have V2 := V_b1
  obtain ⟨cl2, Ar2, qa2, Sa2, Na2, Ha2, Ga2⟩ := V2
  refine own_st (T' := T1) (F' := (mkF m 6 #[.val (.int (2 : Int32)), .val (.ref b1), .unset, .unset, .unset] [(.int (8 : Int32))])) (fun t k => X1.arraylength hx Ar2.1 (State.isArrayOf_alike hZ.alike Ar2.2.1) (g := (mkF m 5 #[.val (.int (2 : Int32)), .val (.ref b1), .unset, .unset, .unset] [(.ref b1)])) rfl rfl (hb hby d1_5) _ (by rw [(len_of Sa2 Na2)]; exact k)) ?_
  refine own_st (T' := T1) (F' := (mkF m 7 #[.val (.int (2 : Int32)), .val (.ref b1), .val (.int (8 : Int32)), .unset, .unset] [])) (fun t k => XS.istoreN X1.here hx rfl (hb hby d1_6) rfl (l' := #[.val (.int (2 : Int32)), .val (.ref b1), .val (.int (8 : Int32)), .unset, .unset]) rfl k) ?_
  refine own_st (T' := T1) (F' := (mkF m 8 #[.val (.int (2 : Int32)), .val (.ref b1), .val (.int (8 : Int32)), .unset, .unset] [(.int (0 : Int32))])) (fun t k => XS.iconst X1.here hx rfl (hb hby d1_7) k) ?_
  refine own_st (T' := T1) (F' := (mkF m 9 #[.val (.int (2 : Int32)), .val (.ref b1), .val (.int (8 : Int32)), .val (.int (0 : Int32)), .unset] [])) (fun t k => XS.istoreN X1.here hx rfl (hb hby d1_8) rfl (l' := #[.val (.int (2 : Int32)), .val (.ref b1), .val (.int (8 : Int32)), .val (.int (0 : Int32)), .unset]) rfl k) ?_
  refine own_st (T' := T1) (F' := (mkF m 10 #[.val (.int (2 : Int32)), .val (.ref b1), .val (.int (8 : Int32)), .val (.int (0 : Int32)), .unset] [(.int (0 : Int32))])) (fun t k => XS.iloadN X1.here hx rfl (hb hby d1_9) rfl k) ?_
  refine own_st (T' := T1) (F' := (mkF m 11 #[.val (.int (2 : Int32)), .val (.ref b1), .val (.int (8 : Int32)), .val (.int (0 : Int32)), .unset] [(.int (8 : Int32)), (.int (0 : Int32))])) (fun t k => XS.iloadN X1.here hx rfl (hb hby d1_10) rfl k) ?_
  refine own_st (T' := T1) (F' := (mkF m 14 #[.val (.int (2 : Int32)), .val (.ref b1), .val (.int (8 : Int32)), .val (.int (0 : Int32)), .unset] [])) (fun t k => XS.icmpNo X1.here hx rfl (hb hby d1_11) rfl (tlt (by decide : ((0 : Int32) < (8 : Int32)))).2.1 k) ?_
  refine own_st (T' := T1) (F' := (mkF m 15 #[.val (.int (2 : Int32)), .val (.ref b1), .val (.int (8 : Int32)), .val (.int (0 : Int32)), .unset] [(.ref b1)])) (fun t k => XS.aloadN X1.here hx rfl (hb hby d1_14) rfl rfl k) ?_
  refine own_st (T' := T1) (F' := (mkF m 16 #[.val (.int (2 : Int32)), .val (.ref b1), .val (.int (8 : Int32)), .val (.int (0 : Int32)), .unset] [(.int (0 : Int32)), (.ref b1)])) (fun t k => XS.iloadN X1.here hx rfl (hb hby d1_15) rfl k) ?_
  have V3 := V_b1
  obtain ⟨cl3, Ar3, qa3, Sa3, Na3, Ha3, Ga3⟩ := V3
  have hin3 : ¬ ((0 : Int32) < 0 ∨ cl3.slots.size ≤ ((0 : Int32)).toNatClampNeg) := inb_of Sa3 ⟨by decide, by decide⟩
  have hat3 : cl3.slots[((0 : Int32)).toNatClampNeg]? = some (.ref w_VAL0) := Has.at Ha3 hin3 rfl
  refine own_st (T' := T1) (F' := (mkF m 17 #[.val (.int (2 : Int32)), .val (.ref b1), .val (.int (8 : Int32)), .val (.int (0 : Int32)), .unset] [(.ref w_VAL0)])) (fun t k => X1.aaload hx (j := (0 : Int32)) (v := (.ref w_VAL0)) Ar3.1 (State.isArrayOf_alike hZ.alike Ar3.2.1) rfl Ar3.2.2 hin3 hat3 (g := (mkF m 16 #[.val (.int (2 : Int32)), .val (.ref b1), .val (.int (8 : Int32)), .val (.int (0 : Int32)), .unset] [(.int (0 : Int32)), (.ref b1)])) rfl rfl (hb hby d1_16) _ k) ?_
  refine own_st (T' := T1) (F' := (mkF m 19 #[.val (.int (2 : Int32)), .val (.ref b1), .val (.int (8 : Int32)), .val (.int (0 : Int32)), .val (.ref w_VAL0)] [])) (fun t k => XS.astore X1.here hx rfl (hb hby d1_17) rfl rfl (l' := #[.val (.int (2 : Int32)), .val (.ref b1), .val (.int (8 : Int32)), .val (.int (0 : Int32)), .val (.ref w_VAL0)]) rfl k) ?_
  refine own_st (T' := T1) (F' := (mkF m 21 #[.val (.int (2 : Int32)), .val (.ref b1), .val (.int (8 : Int32)), .val (.int (0 : Int32)), .val (.ref w_VAL0)] [(.ref w_VAL0)])) (fun t k => XS.aload X1.here hx rfl (hb hby d1_19) rfl rfl k) ?_
  obtain ⟨T4, X4, e4, st4⟩ := getF X1 hx hZ hown (host := "") (Or.inl (hw _ (List.mem_of_getElem? (i := 19) rfl))) Via.refl rfl (O_VAL0.ext O) (g := (mkF m 21 #[.val (.int (2 : Int32)), .val (.ref b1), .val (.int (8 : Int32)), .val (.int (0 : Int32)), .val (.ref w_VAL0)] [(.ref w_VAL0)])) rfl rfl (hb hby d1_21)
  refine own_st (T' := T4) (F' := (mkF m 24 #[.val (.int (2 : Int32)), .val (.ref b1), .val (.int (8 : Int32)), .val (.int (0 : Int32)), .val (.ref w_VAL0)] [(.int (8 : Int32))])) st4 ?_
  refine own_st (T' := T4) (F' := (mkF m 25 #[.val (.int (2 : Int32)), .val (.ref b1), .val (.int (8 : Int32)), .val (.int (0 : Int32)), .val (.ref w_VAL0)] [(.int (2 : Int32)), (.int (8 : Int32))])) (fun t k => XS.iloadN X4.here hx rfl (hb hby d1_24) rfl k) ?_
  refine own_st (T' := T4) (F' := (mkF m 31 #[.val (.int (2 : Int32)), .val (.ref b1), .val (.int (8 : Int32)), .val (.int (0 : Int32)), .val (.ref w_VAL0)] [])) (fun t k => XS.icmpYes X4.here hx rfl (pc0 := 25) (pc' := 31) rfl (hb hby d1_25) rfl (feq (by decide : ¬ ((8 : Int32) = (2 : Int32)))).2 (by decide) (by decide) k) ?_
  refine own_st (T' := T4) (F' := (mkF m 34 #[.val (.int (2 : Int32)), .val (.ref b1), .val (.int (8 : Int32)), .val (.int (1 : Int32)), .val (.ref w_VAL0)] [])) (fun t k => XS.iinc X4.here hx rfl (hb hby d1_31) rfl (l' := #[.val (.int (2 : Int32)), .val (.ref b1), .val (.int (8 : Int32)), .val (.int (1 : Int32)), .val (.ref w_VAL0)]) rfl k) ?_
  refine own_st (T' := T4) (F' := (mkF m 9 #[.val (.int (2 : Int32)), .val (.ref b1), .val (.int (8 : Int32)), .val (.int (1 : Int32)), .val (.ref w_VAL0)] [])) (fun t k => XS.goto X4.here hx rfl (pc0 := 34) (pc' := 9) rfl (hb hby d1_34) (by decide) (by decide) k) ?_
  refine own_st (T' := T4) (F' := (mkF m 10 #[.val (.int (2 : Int32)), .val (.ref b1), .val (.int (8 : Int32)), .val (.int (1 : Int32)), .val (.ref w_VAL0)] [(.int (1 : Int32))])) (fun t k => XS.iloadN X4.here hx rfl (hb hby d1_9) rfl k) ?_
  refine own_st (T' := T4) (F' := (mkF m 11 #[.val (.int (2 : Int32)), .val (.ref b1), .val (.int (8 : Int32)), .val (.int (1 : Int32)), .val (.ref w_VAL0)] [(.int (8 : Int32)), (.int (1 : Int32))])) (fun t k => XS.iloadN X4.here hx rfl (hb hby d1_10) rfl k) ?_
  refine own_st (T' := T4) (F' := (mkF m 14 #[.val (.int (2 : Int32)), .val (.ref b1), .val (.int (8 : Int32)), .val (.int (1 : Int32)), .val (.ref w_VAL0)] [])) (fun t k => XS.icmpNo X4.here hx rfl (hb hby d1_11) rfl (tlt (by decide : ((1 : Int32) < (8 : Int32)))).2.1 k) ?_
  refine own_st (T' := T4) (F' := (mkF m 15 #[.val (.int (2 : Int32)), .val (.ref b1), .val (.int (8 : Int32)), .val (.int (1 : Int32)), .val (.ref w_VAL0)] [(.ref b1)])) (fun t k => XS.aloadN X4.here hx rfl (hb hby d1_14) rfl rfl k) ?_
  refine own_st (T' := T4) (F' := (mkF m 16 #[.val (.int (2 : Int32)), .val (.ref b1), .val (.int (8 : Int32)), .val (.int (1 : Int32)), .val (.ref w_VAL0)] [(.int (1 : Int32)), (.ref b1)])) (fun t k => XS.iloadN X4.here hx rfl (hb hby d1_15) rfl k) ?_
  have V5 := V_b1
  obtain ⟨cl5, Ar5, qa5, Sa5, Na5, Ha5, Ga5⟩ := V5
  have hin5 : ¬ ((1 : Int32) < 0 ∨ cl5.slots.size ≤ ((1 : Int32)).toNatClampNeg) := inb_of Sa5 ⟨by decide, by decide⟩
  have hat5 : cl5.slots[((1 : Int32)).toNatClampNeg]? = some (.ref w_VAL1) := Has.at Ha5 hin5 rfl
  refine own_st (T' := T4) (F' := (mkF m 17 #[.val (.int (2 : Int32)), .val (.ref b1), .val (.int (8 : Int32)), .val (.int (1 : Int32)), .val (.ref w_VAL0)] [(.ref w_VAL1)])) (fun t k => X4.aaload hx (j := (1 : Int32)) (v := (.ref w_VAL1)) (by rw [e4]; exact Ar5.1) (State.isArrayOf_alike hZ.alike Ar5.2.1) rfl Ar5.2.2 hin5 hat5 (g := (mkF m 16 #[.val (.int (2 : Int32)), .val (.ref b1), .val (.int (8 : Int32)), .val (.int (1 : Int32)), .val (.ref w_VAL0)] [(.int (1 : Int32)), (.ref b1)])) rfl rfl (hb hby d1_16) _ k) ?_
  refine own_st (T' := T4) (F' := (mkF m 19 #[.val (.int (2 : Int32)), .val (.ref b1), .val (.int (8 : Int32)), .val (.int (1 : Int32)), .val (.ref w_VAL1)] [])) (fun t k => XS.astore X4.here hx rfl (hb hby d1_17) rfl rfl (l' := #[.val (.int (2 : Int32)), .val (.ref b1), .val (.int (8 : Int32)), .val (.int (1 : Int32)), .val (.ref w_VAL1)]) rfl k) ?_
  refine own_st (T' := T4) (F' := (mkF m 21 #[.val (.int (2 : Int32)), .val (.ref b1), .val (.int (8 : Int32)), .val (.int (1 : Int32)), .val (.ref w_VAL1)] [(.ref w_VAL1)])) (fun t k => XS.aload X4.here hx rfl (hb hby d1_19) rfl rfl k) ?_
  obtain ⟨T6, X6, e6, st6⟩ := getF X4 hx hZ hown (host := "") (Or.inl (hw _ (List.mem_of_getElem? (i := 19) rfl))) Via.refl e4 (O_VAL1.ext O) (g := (mkF m 21 #[.val (.int (2 : Int32)), .val (.ref b1), .val (.int (8 : Int32)), .val (.int (1 : Int32)), .val (.ref w_VAL1)] [(.ref w_VAL1)])) rfl rfl (hb hby d1_21)
  refine own_st (T' := T6) (F' := (mkF m 24 #[.val (.int (2 : Int32)), .val (.ref b1), .val (.int (8 : Int32)), .val (.int (1 : Int32)), .val (.ref w_VAL1)] [(.int (1 : Int32))])) st6 ?_
  refine own_st (T' := T6) (F' := (mkF m 25 #[.val (.int (2 : Int32)), .val (.ref b1), .val (.int (8 : Int32)), .val (.int (1 : Int32)), .val (.ref w_VAL1)] [(.int (2 : Int32)), (.int (1 : Int32))])) (fun t k => XS.iloadN X6.here hx rfl (hb hby d1_24) rfl k) ?_
  refine own_st (T' := T6) (F' := (mkF m 31 #[.val (.int (2 : Int32)), .val (.ref b1), .val (.int (8 : Int32)), .val (.int (1 : Int32)), .val (.ref w_VAL1)] [])) (fun t k => XS.icmpYes X6.here hx rfl (pc0 := 25) (pc' := 31) rfl (hb hby d1_25) rfl (feq (by decide : ¬ ((1 : Int32) = (2 : Int32)))).2 (by decide) (by decide) k) ?_
  refine own_st (T' := T6) (F' := (mkF m 34 #[.val (.int (2 : Int32)), .val (.ref b1), .val (.int (8 : Int32)), .val (.int (2 : Int32)), .val (.ref w_VAL1)] [])) (fun t k => XS.iinc X6.here hx rfl (hb hby d1_31) rfl (l' := #[.val (.int (2 : Int32)), .val (.ref b1), .val (.int (8 : Int32)), .val (.int (2 : Int32)), .val (.ref w_VAL1)]) rfl k) ?_
  refine own_st (T' := T6) (F' := (mkF m 9 #[.val (.int (2 : Int32)), .val (.ref b1), .val (.int (8 : Int32)), .val (.int (2 : Int32)), .val (.ref w_VAL1)] [])) (fun t k => XS.goto X6.here hx rfl (pc0 := 34) (pc' := 9) rfl (hb hby d1_34) (by decide) (by decide) k) ?_
  refine own_st (T' := T6) (F' := (mkF m 10 #[.val (.int (2 : Int32)), .val (.ref b1), .val (.int (8 : Int32)), .val (.int (2 : Int32)), .val (.ref w_VAL1)] [(.int (2 : Int32))])) (fun t k => XS.iloadN X6.here hx rfl (hb hby d1_9) rfl k) ?_
  refine own_st (T' := T6) (F' := (mkF m 11 #[.val (.int (2 : Int32)), .val (.ref b1), .val (.int (8 : Int32)), .val (.int (2 : Int32)), .val (.ref w_VAL1)] [(.int (8 : Int32)), (.int (2 : Int32))])) (fun t k => XS.iloadN X6.here hx rfl (hb hby d1_10) rfl k) ?_
  refine own_st (T' := T6) (F' := (mkF m 14 #[.val (.int (2 : Int32)), .val (.ref b1), .val (.int (8 : Int32)), .val (.int (2 : Int32)), .val (.ref w_VAL1)] [])) (fun t k => XS.icmpNo X6.here hx rfl (hb hby d1_11) rfl (tlt (by decide : ((2 : Int32) < (8 : Int32)))).2.1 k) ?_
  refine own_st (T' := T6) (F' := (mkF m 15 #[.val (.int (2 : Int32)), .val (.ref b1), .val (.int (8 : Int32)), .val (.int (2 : Int32)), .val (.ref w_VAL1)] [(.ref b1)])) (fun t k => XS.aloadN X6.here hx rfl (hb hby d1_14) rfl rfl k) ?_
  refine own_st (T' := T6) (F' := (mkF m 16 #[.val (.int (2 : Int32)), .val (.ref b1), .val (.int (8 : Int32)), .val (.int (2 : Int32)), .val (.ref w_VAL1)] [(.int (2 : Int32)), (.ref b1)])) (fun t k => XS.iloadN X6.here hx rfl (hb hby d1_15) rfl k) ?_
  have V7 := V_b1
  obtain ⟨cl7, Ar7, qa7, Sa7, Na7, Ha7, Ga7⟩ := V7
  have hin7 : ¬ ((2 : Int32) < 0 ∨ cl7.slots.size ≤ ((2 : Int32)).toNatClampNeg) := inb_of Sa7 ⟨by decide, by decide⟩
  have hat7 : cl7.slots[((2 : Int32)).toNatClampNeg]? = some (.ref w_VAL2) := Has.at Ha7 hin7 rfl
  refine own_st (T' := T6) (F' := (mkF m 17 #[.val (.int (2 : Int32)), .val (.ref b1), .val (.int (8 : Int32)), .val (.int (2 : Int32)), .val (.ref w_VAL1)] [(.ref w_VAL2)])) (fun t k => X6.aaload hx (j := (2 : Int32)) (v := (.ref w_VAL2)) (by rw [e6]; exact Ar7.1) (State.isArrayOf_alike hZ.alike Ar7.2.1) rfl Ar7.2.2 hin7 hat7 (g := (mkF m 16 #[.val (.int (2 : Int32)), .val (.ref b1), .val (.int (8 : Int32)), .val (.int (2 : Int32)), .val (.ref w_VAL1)] [(.int (2 : Int32)), (.ref b1)])) rfl rfl (hb hby d1_16) _ k) ?_
  refine own_st (T' := T6) (F' := (mkF m 19 #[.val (.int (2 : Int32)), .val (.ref b1), .val (.int (8 : Int32)), .val (.int (2 : Int32)), .val (.ref w_VAL2)] [])) (fun t k => XS.astore X6.here hx rfl (hb hby d1_17) rfl rfl (l' := #[.val (.int (2 : Int32)), .val (.ref b1), .val (.int (8 : Int32)), .val (.int (2 : Int32)), .val (.ref w_VAL2)]) rfl k) ?_
  refine own_st (T' := T6) (F' := (mkF m 21 #[.val (.int (2 : Int32)), .val (.ref b1), .val (.int (8 : Int32)), .val (.int (2 : Int32)), .val (.ref w_VAL2)] [(.ref w_VAL2)])) (fun t k => XS.aload X6.here hx rfl (hb hby d1_19) rfl rfl k) ?_
  obtain ⟨T8, X8, e8, st8⟩ := getF X6 hx hZ hown (host := "") (Or.inl (hw _ (List.mem_of_getElem? (i := 19) rfl))) Via.refl e6 (O_VAL2.ext O) (g := (mkF m 21 #[.val (.int (2 : Int32)), .val (.ref b1), .val (.int (8 : Int32)), .val (.int (2 : Int32)), .val (.ref w_VAL2)] [(.ref w_VAL2)])) rfl rfl (hb hby d1_21)
  refine own_st (T' := T8) (F' := (mkF m 24 #[.val (.int (2 : Int32)), .val (.ref b1), .val (.int (8 : Int32)), .val (.int (2 : Int32)), .val (.ref w_VAL2)] [(.int (2 : Int32))])) st8 ?_
  refine own_st (T' := T8) (F' := (mkF m 25 #[.val (.int (2 : Int32)), .val (.ref b1), .val (.int (8 : Int32)), .val (.int (2 : Int32)), .val (.ref w_VAL2)] [(.int (2 : Int32)), (.int (2 : Int32))])) (fun t k => XS.iloadN X8.here hx rfl (hb hby d1_24) rfl k) ?_
  refine own_st (T' := T8) (F' := (mkF m 28 #[.val (.int (2 : Int32)), .val (.ref b1), .val (.int (8 : Int32)), .val (.int (2 : Int32)), .val (.ref w_VAL2)] [])) (fun t k => XS.icmpNo X8.here hx rfl (hb hby d1_25) rfl (teq rfl).2 k) ?_
  refine own_st (T' := T8) (F' := (mkF m 30 #[.val (.int (2 : Int32)), .val (.ref b1), .val (.int (8 : Int32)), .val (.int (2 : Int32)), .val (.ref w_VAL2)] [(.ref w_VAL2)])) (fun t k => XS.aload X8.here hx rfl (hb hby d1_28) rfl rfl k) ?_
  exact own_retA X8 hx (t := (.object "com/example/turnleaf/turnleaf/token/KeyType")) Bd.returns rfl rfl (hb hby d1_30) hlk (by show QE Z (.ref w_VAL2) h0 _ T8.heap _; rw [e8]; exact ⟨rfl, N, E1⟩) (by decide) (by decide)
set_option maxRecDepth 65536 in
set_option maxHeartbeats 40000000 in
theorem rmX_2 (l : Launch) (Z : State) (a0 : Array Value) {w_VAL : Addr} {k_VAL : ClassId} {w_VAL0 : Addr} {w_VAL1 : Addr} {w_VAL2 : Addr} {w_VAL3 : Addr} {w_VAL4 : Addr} {w_VAL5 : Addr} {w_VAL6 : Addr} {w_VAL7 : Addr} (CX : Ctx Z a0 w_VAL k_VAL w_VAL0 w_VAL1 w_VAL2 w_VAL3 w_VAL4 w_VAL5 w_VAL6 w_VAL7) (ws : List Jvm.Cond)  (h0 : Heap) (O : Ext Z.heap h0)  :
    MetFree l (⟨"com/example/turnleaf/turnleaf/token/KeyTypeOfTagPinLaw", "expected", "(I)Lcom/example/turnleaf/turnleaf/token/KeyType;"⟩ : MethodName) (head1 (Jvm.Cond.code (⟨"com/example/turnleaf/turnleaf/token/KeyTypeOfTagPinLaw", "expected", "(I)Lcom/example/turnleaf/turnleaf/token/KeyType;"⟩ : MethodName) method_2_code 1 (some (.object "com/example/turnleaf/turnleaf/token/KeyType")) :: ws) ({ frames := 0, cells := 0, slots := 0, locals := 0 } : Room)) (fun a U => a = #[(.int (2 : Int32))] ∧ Z.Warmed39 U.vm ∧ U.heap = h0) (fun _ _ _ _ _ => True) (fun _ U o U' => ∃ v L, o = .returned v ∧ QP Z (.ref w_VAL2) h0 v U'.heap L ∧ FrameEnd U o U' L ({ frames := 0, cells := 0, slots := 0, locals := 0 } : Room).cells ({ frames := 0, cells := 0, slots := 0, locals := 0 } : Room).slots) := by
  refine MetFree.of_bodySF (plainFor_of_name pn_1) hisR ?_
  intro p e s m args below meth c s₁ Bd hml0 hP hK
  obtain ⟨rfl, hZ, hh⟩ := hP
  have CX0 := CX
  obtain ⟨hw, E_VAL0, E_VAL1, E_VAL2, E_VAL3, E_VAL4, E_VAL5, E_VAL6, E_VAL7, O_VAL0, O_VAL1, S_INTEGER, O_VAL2, O_VAL3, O_VAL4, S_DECIMAL, O_VAL5, O_VAL6, O_VAL7, S_NULL, S_SHORT, S_DOUBLE, S_LONG, S_TEXT, S_UUID, S_VAL, E_VAL, V_VAL, -⟩ := CX0
  have hx := Bd.exec
  have hby := Bd.bytes
  have hml : c.maxLocals = 1 := hml0
  have hown : s.vm.findClass "com/example/turnleaf/turnleaf/token/KeyTypeOfTagPinLaw" = some m.cls := findClass_of_methodNamed Bd.named
  have hnm := (name_of_methodNamed Bd.named Bd.method).1
  have hlk : meth.locks = false := BodyLoose.notSynchronized Bd
  have X0 : Stand p l e ({ frames := 0, cells := 0, slots := 0, locals := 0 } : Room) s m #[(.int (2 : Int32))] below meth c s₁ [] 0 0 := Stand.of_body Bd
  have e0 : s₁.heap = h0 := by rw [← hh, Bd.state]; rfl
  have N := Fr.nil Z.heap.size
  show own_Done p.tables e below (own_R (QP Z (.ref w_VAL2) h0) s 0 0) s₁ (entryFrame m #[(.int (2 : Int32))] 1)
  refine own_st (T' := s₁) (F' := (mkF m 0 #[.val (.int (2 : Int32))] [])) (fun t k => castTop (by first | rfl | (simp [entryFrame, mkF, argsToLocals, Value.category]; done)) k) ?_
  refine own_st (T' := s₁) (F' := (mkF m 1 #[.val (.int (2 : Int32))] [(.int (2 : Int32))])) (fun t k => XS.iloadN X0.here hx rfl (hb hby d3_0) rfl k) ?_
  refine own_st (T' := s₁) (F' := (mkF m 2 #[.val (.int (2 : Int32))] [(.int (1 : Int32)), (.int (2 : Int32))])) (fun t k => XS.iconst X0.here hx rfl (hb hby d3_1) k) ?_
  refine own_st (T' := s₁) (F' := (mkF m 9 #[.val (.int (2 : Int32))] [])) (fun t k => XS.icmpYes X0.here hx rfl (pc0 := 2) (pc' := 9) rfl (hb hby d3_2) rfl (feq (by decide : ¬ ((2 : Int32) = (1 : Int32)))).2 (by decide) (by decide) k) ?_
  refine own_st (T' := s₁) (F' := (mkF m 10 #[.val (.int (2 : Int32))] [(.int (2 : Int32))])) (fun t k => XS.iloadN X0.here hx rfl (hb hby d3_9) rfl k) ?_
  refine own_st (T' := s₁) (F' := (mkF m 11 #[.val (.int (2 : Int32))] [(.int (2 : Int32)), (.int (2 : Int32))])) (fun t k => XS.iconst X0.here hx rfl (hb hby d3_10) k) ?_
  refine own_st (T' := s₁) (F' := (mkF m 14 #[.val (.int (2 : Int32))] [])) (fun t k => XS.icmpNo X0.here hx rfl (hb hby d3_11) rfl (teq rfl).2 k) ?_
  obtain ⟨T1, X1, e1, st1⟩ := getS2 X0 hx hZ hown (host := "") (Or.inl (hw _ (List.mem_of_getElem? (i := 51) rfl))) Via.refl e0 (S_LONG.ext O) (g := (mkF m 14 #[.val (.int (2 : Int32))] [])) rfl (hb hby d3_14)
  refine own_st (T' := T1) (F' := (mkF m 17 #[.val (.int (2 : Int32))] [(.ref w_VAL2)])) st1 ?_
  exact own_retA X1 hx (t := (.object "com/example/turnleaf/turnleaf/token/KeyType")) Bd.returns rfl rfl (hb hby d3_17) hlk (by show QP Z (.ref w_VAL2) h0 _ T1.heap _; rw [e1]; exact ⟨rfl, N, rfl⟩) (by decide) (by decide)
set_option maxRecDepth 65536 in
set_option maxHeartbeats 40000000 in
theorem rmO_3 (l : Launch) (Z : State) (a0 : Array Value) {w_VAL : Addr} {k_VAL : ClassId} {w_VAL0 : Addr} {w_VAL1 : Addr} {w_VAL2 : Addr} {w_VAL3 : Addr} {w_VAL4 : Addr} {w_VAL5 : Addr} {w_VAL6 : Addr} {w_VAL7 : Addr} (CX : Ctx Z a0 w_VAL k_VAL w_VAL0 w_VAL1 w_VAL2 w_VAL3 w_VAL4 w_VAL5 w_VAL6 w_VAL7) (ws : List Jvm.Cond)  (h0 : Heap) (O : Ext Z.heap h0)  :
    MetFree l (⟨"com/example/turnleaf/turnleaf/token/KeyType", "ofTag", "(I)Lcom/example/turnleaf/turnleaf/token/KeyType;"⟩ : MethodName) (head1 (Jvm.Cond.code (⟨"com/example/turnleaf/turnleaf/token/KeyType", "ofTag", "(I)Lcom/example/turnleaf/turnleaf/token/KeyType;"⟩ : MethodName) prog_36_method_8_code 5 (some (.object "com/example/turnleaf/turnleaf/token/KeyType")) :: ws) ({ frames := 2, cells := 1, slots := 8, locals := 25 } : Room)) (fun a U => a = #[(.int (3 : Int32))] ∧ Z.Warmed39 U.vm ∧ U.heap = h0) (fun _ _ _ _ _ => True) (fun _ U o U' => ∃ v L, o = .returned v ∧ QE Z (.ref w_VAL3) h0 v U'.heap L ∧ FrameEnd U o U' L ({ frames := 2, cells := 1, slots := 8, locals := 25 } : Room).cells ({ frames := 2, cells := 1, slots := 8, locals := 25 } : Room).slots) := by
  refine MetFree.of_bodySF (plainFor_of_name pn_0) hisR ?_
  intro p e s m args below meth c s₁ Bd hml0 hP hK
  obtain ⟨rfl, hZ, hh⟩ := hP
  have CX0 := CX
  obtain ⟨hw, E_VAL0, E_VAL1, E_VAL2, E_VAL3, E_VAL4, E_VAL5, E_VAL6, E_VAL7, O_VAL0, O_VAL1, S_INTEGER, O_VAL2, O_VAL3, O_VAL4, S_DECIMAL, O_VAL5, O_VAL6, O_VAL7, S_NULL, S_SHORT, S_DOUBLE, S_LONG, S_TEXT, S_UUID, S_VAL, E_VAL, V_VAL, -⟩ := CX0
  have hx := Bd.exec
  have hby := Bd.bytes
  have hml : c.maxLocals = 5 := hml0
  have hown : s.vm.findClass "com/example/turnleaf/turnleaf/token/KeyType" = some m.cls := findClass_of_methodNamed Bd.named
  have hnm := (name_of_methodNamed Bd.named Bd.method).1
  have hlk : meth.locks = false := BodyLoose.notSynchronized Bd
  have X0 : Stand p l e ({ frames := 2, cells := 1, slots := 8, locals := 25 } : Room) s m #[(.int (3 : Int32))] below meth c s₁ [] 0 0 := Stand.of_body Bd
  have e0 : s₁.heap = h0 := by rw [← hh, Bd.state]; rfl
  have N := Fr.nil Z.heap.size
  show own_Done p.tables e below (own_R (QE Z (.ref w_VAL3) h0) s 1 8) s₁ (entryFrame m #[(.int (3 : Int32))] 5)
  refine own_st (T' := s₁) (F' := (mkF m 0 #[.val (.int (3 : Int32)), .unset, .unset, .unset, .unset] [])) (fun t k => castTop (by first | rfl | (simp [entryFrame, mkF, argsToLocals, Value.category]; done)) k) ?_
  obtain ⟨v1, _, ⟨T1, L1, k1, n1⟩, -, X1, ⟨Lc1, hQ1, l1, y1, z1⟩, st1⟩ := Jvm.LawKit.callS X0 hx (y := (⟨"com/example/turnleaf/turnleaf/token/KeyType", "values", "()[Lcom/example/turnleaf/turnleaf/token/KeyType;"⟩ : MethodName)) hown (mvT hZ (hw _ (List.mem_of_getElem? (i := 4) rfl))) (mvT hZ (hw _ (List.mem_of_getElem? (i := 5) rfl))) (mvT hZ (hw _ (List.mem_of_getElem? (i := 2) rfl))) (mvT hZ (hw _ (List.mem_of_getElem? (i := 6) rfl))) (by decide) (backOf (W := 0) (rm2 l Z a0 CX [] h0 O) hZ (hw _ (List.mem_of_getElem? (i := 6) rfl)) (hw _ (List.mem_of_getElem? (i := 2) rfl)) (by decide) (by decide)) (g := (mkF m 0 #[.val (.int (3 : Int32)), .unset, .unset, .unset, .unset] [])) rfl (by rw [hml]; rfl) (argsL := []) (rest := []) (lenOf pd_0 rfl) rfl (by show 2 * 0 + _ ≤ _; exact Nat.le_of_eq rfl) (hb hby d1_0) (fun _ _ => ⟨rfl, e0, (by decide : 0 + 1 ≤ _), (by decide : 0 + 8 ≤ _)⟩)
  dsimp only [Pt.U, Pt.locs, Pt.cells, Pt.slots] at X1 l1 y1 z1 st1 hQ1
  subst l1 y1 z1
  obtain ⟨rfl, N1q, E1, V1⟩ := hQ1
  have N := Fr.app N N1q
  obtain ⟨b1, g1⟩ : ∃ z, z = h0.size := ⟨_, rfl⟩
  rw [← g1] at V1 st1
  have g_b1 : Z.heap.size ≤ b1 := Nat.le_trans O.1 (Nat.le_of_eq g1.symm)
  have O := own_ext_trans O E1
  have V_b1 := V1
  refine own_st (T' := T1) (F' := (mkF m 3 #[.val (.int (3 : Int32)), .unset, .unset, .unset, .unset] [(.ref b1)])) st1 ?_
  refine own_st (T' := T1) (F' := (mkF m 4 #[.val (.int (3 : Int32)), .val (.ref b1), .unset, .unset, .unset] [])) (fun t k => XS.astoreN X1.here hx rfl (hb hby d1_3) rfl rfl (l' := #[.val (.int (3 : Int32)), .val (.ref b1), .unset, .unset, .unset]) rfl k) ?_
  refine own_st (T' := T1) (F' := (mkF m 5 #[.val (.int (3 : Int32)), .val (.ref b1), .unset, .unset, .unset] [(.ref b1)])) (fun t k => XS.aloadN X1.here hx rfl (hb hby d1_4) rfl rfl k) ?_
  have V2 := V_b1
  obtain ⟨cl2, Ar2, qa2, Sa2, Na2, Ha2, Ga2⟩ := V2
  refine own_st (T' := T1) (F' := (mkF m 6 #[.val (.int (3 : Int32)), .val (.ref b1), .unset, .unset, .unset] [(.int (8 : Int32))])) (fun t k => X1.arraylength hx Ar2.1 (State.isArrayOf_alike hZ.alike Ar2.2.1) (g := (mkF m 5 #[.val (.int (3 : Int32)), .val (.ref b1), .unset, .unset, .unset] [(.ref b1)])) rfl rfl (hb hby d1_5) _ (by rw [(len_of Sa2 Na2)]; exact k)) ?_
  refine own_st (T' := T1) (F' := (mkF m 7 #[.val (.int (3 : Int32)), .val (.ref b1), .val (.int (8 : Int32)), .unset, .unset] [])) (fun t k => XS.istoreN X1.here hx rfl (hb hby d1_6) rfl (l' := #[.val (.int (3 : Int32)), .val (.ref b1), .val (.int (8 : Int32)), .unset, .unset]) rfl k) ?_
  refine own_st (T' := T1) (F' := (mkF m 8 #[.val (.int (3 : Int32)), .val (.ref b1), .val (.int (8 : Int32)), .unset, .unset] [(.int (0 : Int32))])) (fun t k => XS.iconst X1.here hx rfl (hb hby d1_7) k) ?_
  refine own_st (T' := T1) (F' := (mkF m 9 #[.val (.int (3 : Int32)), .val (.ref b1), .val (.int (8 : Int32)), .val (.int (0 : Int32)), .unset] [])) (fun t k => XS.istoreN X1.here hx rfl (hb hby d1_8) rfl (l' := #[.val (.int (3 : Int32)), .val (.ref b1), .val (.int (8 : Int32)), .val (.int (0 : Int32)), .unset]) rfl k) ?_
  refine own_st (T' := T1) (F' := (mkF m 10 #[.val (.int (3 : Int32)), .val (.ref b1), .val (.int (8 : Int32)), .val (.int (0 : Int32)), .unset] [(.int (0 : Int32))])) (fun t k => XS.iloadN X1.here hx rfl (hb hby d1_9) rfl k) ?_
  refine own_st (T' := T1) (F' := (mkF m 11 #[.val (.int (3 : Int32)), .val (.ref b1), .val (.int (8 : Int32)), .val (.int (0 : Int32)), .unset] [(.int (8 : Int32)), (.int (0 : Int32))])) (fun t k => XS.iloadN X1.here hx rfl (hb hby d1_10) rfl k) ?_
  refine own_st (T' := T1) (F' := (mkF m 14 #[.val (.int (3 : Int32)), .val (.ref b1), .val (.int (8 : Int32)), .val (.int (0 : Int32)), .unset] [])) (fun t k => XS.icmpNo X1.here hx rfl (hb hby d1_11) rfl (tlt (by decide : ((0 : Int32) < (8 : Int32)))).2.1 k) ?_
  refine own_st (T' := T1) (F' := (mkF m 15 #[.val (.int (3 : Int32)), .val (.ref b1), .val (.int (8 : Int32)), .val (.int (0 : Int32)), .unset] [(.ref b1)])) (fun t k => XS.aloadN X1.here hx rfl (hb hby d1_14) rfl rfl k) ?_
  refine own_st (T' := T1) (F' := (mkF m 16 #[.val (.int (3 : Int32)), .val (.ref b1), .val (.int (8 : Int32)), .val (.int (0 : Int32)), .unset] [(.int (0 : Int32)), (.ref b1)])) (fun t k => XS.iloadN X1.here hx rfl (hb hby d1_15) rfl k) ?_
  have V3 := V_b1
  obtain ⟨cl3, Ar3, qa3, Sa3, Na3, Ha3, Ga3⟩ := V3
  have hin3 : ¬ ((0 : Int32) < 0 ∨ cl3.slots.size ≤ ((0 : Int32)).toNatClampNeg) := inb_of Sa3 ⟨by decide, by decide⟩
  have hat3 : cl3.slots[((0 : Int32)).toNatClampNeg]? = some (.ref w_VAL0) := Has.at Ha3 hin3 rfl
  refine own_st (T' := T1) (F' := (mkF m 17 #[.val (.int (3 : Int32)), .val (.ref b1), .val (.int (8 : Int32)), .val (.int (0 : Int32)), .unset] [(.ref w_VAL0)])) (fun t k => X1.aaload hx (j := (0 : Int32)) (v := (.ref w_VAL0)) Ar3.1 (State.isArrayOf_alike hZ.alike Ar3.2.1) rfl Ar3.2.2 hin3 hat3 (g := (mkF m 16 #[.val (.int (3 : Int32)), .val (.ref b1), .val (.int (8 : Int32)), .val (.int (0 : Int32)), .unset] [(.int (0 : Int32)), (.ref b1)])) rfl rfl (hb hby d1_16) _ k) ?_
  refine own_st (T' := T1) (F' := (mkF m 19 #[.val (.int (3 : Int32)), .val (.ref b1), .val (.int (8 : Int32)), .val (.int (0 : Int32)), .val (.ref w_VAL0)] [])) (fun t k => XS.astore X1.here hx rfl (hb hby d1_17) rfl rfl (l' := #[.val (.int (3 : Int32)), .val (.ref b1), .val (.int (8 : Int32)), .val (.int (0 : Int32)), .val (.ref w_VAL0)]) rfl k) ?_
  refine own_st (T' := T1) (F' := (mkF m 21 #[.val (.int (3 : Int32)), .val (.ref b1), .val (.int (8 : Int32)), .val (.int (0 : Int32)), .val (.ref w_VAL0)] [(.ref w_VAL0)])) (fun t k => XS.aload X1.here hx rfl (hb hby d1_19) rfl rfl k) ?_
  obtain ⟨T4, X4, e4, st4⟩ := getF X1 hx hZ hown (host := "") (Or.inl (hw _ (List.mem_of_getElem? (i := 19) rfl))) Via.refl rfl (O_VAL0.ext O) (g := (mkF m 21 #[.val (.int (3 : Int32)), .val (.ref b1), .val (.int (8 : Int32)), .val (.int (0 : Int32)), .val (.ref w_VAL0)] [(.ref w_VAL0)])) rfl rfl (hb hby d1_21)
  refine own_st (T' := T4) (F' := (mkF m 24 #[.val (.int (3 : Int32)), .val (.ref b1), .val (.int (8 : Int32)), .val (.int (0 : Int32)), .val (.ref w_VAL0)] [(.int (8 : Int32))])) st4 ?_
  refine own_st (T' := T4) (F' := (mkF m 25 #[.val (.int (3 : Int32)), .val (.ref b1), .val (.int (8 : Int32)), .val (.int (0 : Int32)), .val (.ref w_VAL0)] [(.int (3 : Int32)), (.int (8 : Int32))])) (fun t k => XS.iloadN X4.here hx rfl (hb hby d1_24) rfl k) ?_
  refine own_st (T' := T4) (F' := (mkF m 31 #[.val (.int (3 : Int32)), .val (.ref b1), .val (.int (8 : Int32)), .val (.int (0 : Int32)), .val (.ref w_VAL0)] [])) (fun t k => XS.icmpYes X4.here hx rfl (pc0 := 25) (pc' := 31) rfl (hb hby d1_25) rfl (feq (by decide : ¬ ((8 : Int32) = (3 : Int32)))).2 (by decide) (by decide) k) ?_
  refine own_st (T' := T4) (F' := (mkF m 34 #[.val (.int (3 : Int32)), .val (.ref b1), .val (.int (8 : Int32)), .val (.int (1 : Int32)), .val (.ref w_VAL0)] [])) (fun t k => XS.iinc X4.here hx rfl (hb hby d1_31) rfl (l' := #[.val (.int (3 : Int32)), .val (.ref b1), .val (.int (8 : Int32)), .val (.int (1 : Int32)), .val (.ref w_VAL0)]) rfl k) ?_
  refine own_st (T' := T4) (F' := (mkF m 9 #[.val (.int (3 : Int32)), .val (.ref b1), .val (.int (8 : Int32)), .val (.int (1 : Int32)), .val (.ref w_VAL0)] [])) (fun t k => XS.goto X4.here hx rfl (pc0 := 34) (pc' := 9) rfl (hb hby d1_34) (by decide) (by decide) k) ?_
  refine own_st (T' := T4) (F' := (mkF m 10 #[.val (.int (3 : Int32)), .val (.ref b1), .val (.int (8 : Int32)), .val (.int (1 : Int32)), .val (.ref w_VAL0)] [(.int (1 : Int32))])) (fun t k => XS.iloadN X4.here hx rfl (hb hby d1_9) rfl k) ?_
  refine own_st (T' := T4) (F' := (mkF m 11 #[.val (.int (3 : Int32)), .val (.ref b1), .val (.int (8 : Int32)), .val (.int (1 : Int32)), .val (.ref w_VAL0)] [(.int (8 : Int32)), (.int (1 : Int32))])) (fun t k => XS.iloadN X4.here hx rfl (hb hby d1_10) rfl k) ?_
  refine own_st (T' := T4) (F' := (mkF m 14 #[.val (.int (3 : Int32)), .val (.ref b1), .val (.int (8 : Int32)), .val (.int (1 : Int32)), .val (.ref w_VAL0)] [])) (fun t k => XS.icmpNo X4.here hx rfl (hb hby d1_11) rfl (tlt (by decide : ((1 : Int32) < (8 : Int32)))).2.1 k) ?_
  refine own_st (T' := T4) (F' := (mkF m 15 #[.val (.int (3 : Int32)), .val (.ref b1), .val (.int (8 : Int32)), .val (.int (1 : Int32)), .val (.ref w_VAL0)] [(.ref b1)])) (fun t k => XS.aloadN X4.here hx rfl (hb hby d1_14) rfl rfl k) ?_
  refine own_st (T' := T4) (F' := (mkF m 16 #[.val (.int (3 : Int32)), .val (.ref b1), .val (.int (8 : Int32)), .val (.int (1 : Int32)), .val (.ref w_VAL0)] [(.int (1 : Int32)), (.ref b1)])) (fun t k => XS.iloadN X4.here hx rfl (hb hby d1_15) rfl k) ?_
  have V5 := V_b1
  obtain ⟨cl5, Ar5, qa5, Sa5, Na5, Ha5, Ga5⟩ := V5
  have hin5 : ¬ ((1 : Int32) < 0 ∨ cl5.slots.size ≤ ((1 : Int32)).toNatClampNeg) := inb_of Sa5 ⟨by decide, by decide⟩
  have hat5 : cl5.slots[((1 : Int32)).toNatClampNeg]? = some (.ref w_VAL1) := Has.at Ha5 hin5 rfl
  refine own_st (T' := T4) (F' := (mkF m 17 #[.val (.int (3 : Int32)), .val (.ref b1), .val (.int (8 : Int32)), .val (.int (1 : Int32)), .val (.ref w_VAL0)] [(.ref w_VAL1)])) (fun t k => X4.aaload hx (j := (1 : Int32)) (v := (.ref w_VAL1)) (by rw [e4]; exact Ar5.1) (State.isArrayOf_alike hZ.alike Ar5.2.1) rfl Ar5.2.2 hin5 hat5 (g := (mkF m 16 #[.val (.int (3 : Int32)), .val (.ref b1), .val (.int (8 : Int32)), .val (.int (1 : Int32)), .val (.ref w_VAL0)] [(.int (1 : Int32)), (.ref b1)])) rfl rfl (hb hby d1_16) _ k) ?_
  refine own_st (T' := T4) (F' := (mkF m 19 #[.val (.int (3 : Int32)), .val (.ref b1), .val (.int (8 : Int32)), .val (.int (1 : Int32)), .val (.ref w_VAL1)] [])) (fun t k => XS.astore X4.here hx rfl (hb hby d1_17) rfl rfl (l' := #[.val (.int (3 : Int32)), .val (.ref b1), .val (.int (8 : Int32)), .val (.int (1 : Int32)), .val (.ref w_VAL1)]) rfl k) ?_
  refine own_st (T' := T4) (F' := (mkF m 21 #[.val (.int (3 : Int32)), .val (.ref b1), .val (.int (8 : Int32)), .val (.int (1 : Int32)), .val (.ref w_VAL1)] [(.ref w_VAL1)])) (fun t k => XS.aload X4.here hx rfl (hb hby d1_19) rfl rfl k) ?_
  obtain ⟨T6, X6, e6, st6⟩ := getF X4 hx hZ hown (host := "") (Or.inl (hw _ (List.mem_of_getElem? (i := 19) rfl))) Via.refl e4 (O_VAL1.ext O) (g := (mkF m 21 #[.val (.int (3 : Int32)), .val (.ref b1), .val (.int (8 : Int32)), .val (.int (1 : Int32)), .val (.ref w_VAL1)] [(.ref w_VAL1)])) rfl rfl (hb hby d1_21)
  refine own_st (T' := T6) (F' := (mkF m 24 #[.val (.int (3 : Int32)), .val (.ref b1), .val (.int (8 : Int32)), .val (.int (1 : Int32)), .val (.ref w_VAL1)] [(.int (1 : Int32))])) st6 ?_
  refine own_st (T' := T6) (F' := (mkF m 25 #[.val (.int (3 : Int32)), .val (.ref b1), .val (.int (8 : Int32)), .val (.int (1 : Int32)), .val (.ref w_VAL1)] [(.int (3 : Int32)), (.int (1 : Int32))])) (fun t k => XS.iloadN X6.here hx rfl (hb hby d1_24) rfl k) ?_
  refine own_st (T' := T6) (F' := (mkF m 31 #[.val (.int (3 : Int32)), .val (.ref b1), .val (.int (8 : Int32)), .val (.int (1 : Int32)), .val (.ref w_VAL1)] [])) (fun t k => XS.icmpYes X6.here hx rfl (pc0 := 25) (pc' := 31) rfl (hb hby d1_25) rfl (feq (by decide : ¬ ((1 : Int32) = (3 : Int32)))).2 (by decide) (by decide) k) ?_
  refine own_st (T' := T6) (F' := (mkF m 34 #[.val (.int (3 : Int32)), .val (.ref b1), .val (.int (8 : Int32)), .val (.int (2 : Int32)), .val (.ref w_VAL1)] [])) (fun t k => XS.iinc X6.here hx rfl (hb hby d1_31) rfl (l' := #[.val (.int (3 : Int32)), .val (.ref b1), .val (.int (8 : Int32)), .val (.int (2 : Int32)), .val (.ref w_VAL1)]) rfl k) ?_
  refine own_st (T' := T6) (F' := (mkF m 9 #[.val (.int (3 : Int32)), .val (.ref b1), .val (.int (8 : Int32)), .val (.int (2 : Int32)), .val (.ref w_VAL1)] [])) (fun t k => XS.goto X6.here hx rfl (pc0 := 34) (pc' := 9) rfl (hb hby d1_34) (by decide) (by decide) k) ?_
  refine own_st (T' := T6) (F' := (mkF m 10 #[.val (.int (3 : Int32)), .val (.ref b1), .val (.int (8 : Int32)), .val (.int (2 : Int32)), .val (.ref w_VAL1)] [(.int (2 : Int32))])) (fun t k => XS.iloadN X6.here hx rfl (hb hby d1_9) rfl k) ?_
  refine own_st (T' := T6) (F' := (mkF m 11 #[.val (.int (3 : Int32)), .val (.ref b1), .val (.int (8 : Int32)), .val (.int (2 : Int32)), .val (.ref w_VAL1)] [(.int (8 : Int32)), (.int (2 : Int32))])) (fun t k => XS.iloadN X6.here hx rfl (hb hby d1_10) rfl k) ?_
  refine own_st (T' := T6) (F' := (mkF m 14 #[.val (.int (3 : Int32)), .val (.ref b1), .val (.int (8 : Int32)), .val (.int (2 : Int32)), .val (.ref w_VAL1)] [])) (fun t k => XS.icmpNo X6.here hx rfl (hb hby d1_11) rfl (tlt (by decide : ((2 : Int32) < (8 : Int32)))).2.1 k) ?_
  refine own_st (T' := T6) (F' := (mkF m 15 #[.val (.int (3 : Int32)), .val (.ref b1), .val (.int (8 : Int32)), .val (.int (2 : Int32)), .val (.ref w_VAL1)] [(.ref b1)])) (fun t k => XS.aloadN X6.here hx rfl (hb hby d1_14) rfl rfl k) ?_
  refine own_st (T' := T6) (F' := (mkF m 16 #[.val (.int (3 : Int32)), .val (.ref b1), .val (.int (8 : Int32)), .val (.int (2 : Int32)), .val (.ref w_VAL1)] [(.int (2 : Int32)), (.ref b1)])) (fun t k => XS.iloadN X6.here hx rfl (hb hby d1_15) rfl k) ?_
  have V7 := V_b1
  obtain ⟨cl7, Ar7, qa7, Sa7, Na7, Ha7, Ga7⟩ := V7
  have hin7 : ¬ ((2 : Int32) < 0 ∨ cl7.slots.size ≤ ((2 : Int32)).toNatClampNeg) := inb_of Sa7 ⟨by decide, by decide⟩
  have hat7 : cl7.slots[((2 : Int32)).toNatClampNeg]? = some (.ref w_VAL2) := Has.at Ha7 hin7 rfl
  refine own_st (T' := T6) (F' := (mkF m 17 #[.val (.int (3 : Int32)), .val (.ref b1), .val (.int (8 : Int32)), .val (.int (2 : Int32)), .val (.ref w_VAL1)] [(.ref w_VAL2)])) (fun t k => X6.aaload hx (j := (2 : Int32)) (v := (.ref w_VAL2)) (by rw [e6]; exact Ar7.1) (State.isArrayOf_alike hZ.alike Ar7.2.1) rfl Ar7.2.2 hin7 hat7 (g := (mkF m 16 #[.val (.int (3 : Int32)), .val (.ref b1), .val (.int (8 : Int32)), .val (.int (2 : Int32)), .val (.ref w_VAL1)] [(.int (2 : Int32)), (.ref b1)])) rfl rfl (hb hby d1_16) _ k) ?_
  refine own_st (T' := T6) (F' := (mkF m 19 #[.val (.int (3 : Int32)), .val (.ref b1), .val (.int (8 : Int32)), .val (.int (2 : Int32)), .val (.ref w_VAL2)] [])) (fun t k => XS.astore X6.here hx rfl (hb hby d1_17) rfl rfl (l' := #[.val (.int (3 : Int32)), .val (.ref b1), .val (.int (8 : Int32)), .val (.int (2 : Int32)), .val (.ref w_VAL2)]) rfl k) ?_
  refine own_st (T' := T6) (F' := (mkF m 21 #[.val (.int (3 : Int32)), .val (.ref b1), .val (.int (8 : Int32)), .val (.int (2 : Int32)), .val (.ref w_VAL2)] [(.ref w_VAL2)])) (fun t k => XS.aload X6.here hx rfl (hb hby d1_19) rfl rfl k) ?_
  obtain ⟨T8, X8, e8, st8⟩ := getF X6 hx hZ hown (host := "") (Or.inl (hw _ (List.mem_of_getElem? (i := 19) rfl))) Via.refl e6 (O_VAL2.ext O) (g := (mkF m 21 #[.val (.int (3 : Int32)), .val (.ref b1), .val (.int (8 : Int32)), .val (.int (2 : Int32)), .val (.ref w_VAL2)] [(.ref w_VAL2)])) rfl rfl (hb hby d1_21)
  refine own_st (T' := T8) (F' := (mkF m 24 #[.val (.int (3 : Int32)), .val (.ref b1), .val (.int (8 : Int32)), .val (.int (2 : Int32)), .val (.ref w_VAL2)] [(.int (2 : Int32))])) st8 ?_
  refine own_st (T' := T8) (F' := (mkF m 25 #[.val (.int (3 : Int32)), .val (.ref b1), .val (.int (8 : Int32)), .val (.int (2 : Int32)), .val (.ref w_VAL2)] [(.int (3 : Int32)), (.int (2 : Int32))])) (fun t k => XS.iloadN X8.here hx rfl (hb hby d1_24) rfl k) ?_
  refine own_st (T' := T8) (F' := (mkF m 31 #[.val (.int (3 : Int32)), .val (.ref b1), .val (.int (8 : Int32)), .val (.int (2 : Int32)), .val (.ref w_VAL2)] [])) (fun t k => XS.icmpYes X8.here hx rfl (pc0 := 25) (pc' := 31) rfl (hb hby d1_25) rfl (feq (by decide : ¬ ((2 : Int32) = (3 : Int32)))).2 (by decide) (by decide) k) ?_
  refine own_st (T' := T8) (F' := (mkF m 34 #[.val (.int (3 : Int32)), .val (.ref b1), .val (.int (8 : Int32)), .val (.int (3 : Int32)), .val (.ref w_VAL2)] [])) (fun t k => XS.iinc X8.here hx rfl (hb hby d1_31) rfl (l' := #[.val (.int (3 : Int32)), .val (.ref b1), .val (.int (8 : Int32)), .val (.int (3 : Int32)), .val (.ref w_VAL2)]) rfl k) ?_
  refine own_st (T' := T8) (F' := (mkF m 9 #[.val (.int (3 : Int32)), .val (.ref b1), .val (.int (8 : Int32)), .val (.int (3 : Int32)), .val (.ref w_VAL2)] [])) (fun t k => XS.goto X8.here hx rfl (pc0 := 34) (pc' := 9) rfl (hb hby d1_34) (by decide) (by decide) k) ?_
  refine own_st (T' := T8) (F' := (mkF m 10 #[.val (.int (3 : Int32)), .val (.ref b1), .val (.int (8 : Int32)), .val (.int (3 : Int32)), .val (.ref w_VAL2)] [(.int (3 : Int32))])) (fun t k => XS.iloadN X8.here hx rfl (hb hby d1_9) rfl k) ?_
  refine own_st (T' := T8) (F' := (mkF m 11 #[.val (.int (3 : Int32)), .val (.ref b1), .val (.int (8 : Int32)), .val (.int (3 : Int32)), .val (.ref w_VAL2)] [(.int (8 : Int32)), (.int (3 : Int32))])) (fun t k => XS.iloadN X8.here hx rfl (hb hby d1_10) rfl k) ?_
  refine own_st (T' := T8) (F' := (mkF m 14 #[.val (.int (3 : Int32)), .val (.ref b1), .val (.int (8 : Int32)), .val (.int (3 : Int32)), .val (.ref w_VAL2)] [])) (fun t k => XS.icmpNo X8.here hx rfl (hb hby d1_11) rfl (tlt (by decide : ((3 : Int32) < (8 : Int32)))).2.1 k) ?_
  refine own_st (T' := T8) (F' := (mkF m 15 #[.val (.int (3 : Int32)), .val (.ref b1), .val (.int (8 : Int32)), .val (.int (3 : Int32)), .val (.ref w_VAL2)] [(.ref b1)])) (fun t k => XS.aloadN X8.here hx rfl (hb hby d1_14) rfl rfl k) ?_
  refine own_st (T' := T8) (F' := (mkF m 16 #[.val (.int (3 : Int32)), .val (.ref b1), .val (.int (8 : Int32)), .val (.int (3 : Int32)), .val (.ref w_VAL2)] [(.int (3 : Int32)), (.ref b1)])) (fun t k => XS.iloadN X8.here hx rfl (hb hby d1_15) rfl k) ?_
  have V9 := V_b1
  obtain ⟨cl9, Ar9, qa9, Sa9, Na9, Ha9, Ga9⟩ := V9
  have hin9 : ¬ ((3 : Int32) < 0 ∨ cl9.slots.size ≤ ((3 : Int32)).toNatClampNeg) := inb_of Sa9 ⟨by decide, by decide⟩
  have hat9 : cl9.slots[((3 : Int32)).toNatClampNeg]? = some (.ref w_VAL3) := Has.at Ha9 hin9 rfl
  refine own_st (T' := T8) (F' := (mkF m 17 #[.val (.int (3 : Int32)), .val (.ref b1), .val (.int (8 : Int32)), .val (.int (3 : Int32)), .val (.ref w_VAL2)] [(.ref w_VAL3)])) (fun t k => X8.aaload hx (j := (3 : Int32)) (v := (.ref w_VAL3)) (by rw [e8]; exact Ar9.1) (State.isArrayOf_alike hZ.alike Ar9.2.1) rfl Ar9.2.2 hin9 hat9 (g := (mkF m 16 #[.val (.int (3 : Int32)), .val (.ref b1), .val (.int (8 : Int32)), .val (.int (3 : Int32)), .val (.ref w_VAL2)] [(.int (3 : Int32)), (.ref b1)])) rfl rfl (hb hby d1_16) _ k) ?_
  refine own_st (T' := T8) (F' := (mkF m 19 #[.val (.int (3 : Int32)), .val (.ref b1), .val (.int (8 : Int32)), .val (.int (3 : Int32)), .val (.ref w_VAL3)] [])) (fun t k => XS.astore X8.here hx rfl (hb hby d1_17) rfl rfl (l' := #[.val (.int (3 : Int32)), .val (.ref b1), .val (.int (8 : Int32)), .val (.int (3 : Int32)), .val (.ref w_VAL3)]) rfl k) ?_
  refine own_st (T' := T8) (F' := (mkF m 21 #[.val (.int (3 : Int32)), .val (.ref b1), .val (.int (8 : Int32)), .val (.int (3 : Int32)), .val (.ref w_VAL3)] [(.ref w_VAL3)])) (fun t k => XS.aload X8.here hx rfl (hb hby d1_19) rfl rfl k) ?_
  obtain ⟨T10, X10, e10, st10⟩ := getF X8 hx hZ hown (host := "") (Or.inl (hw _ (List.mem_of_getElem? (i := 19) rfl))) Via.refl e8 (O_VAL3.ext O) (g := (mkF m 21 #[.val (.int (3 : Int32)), .val (.ref b1), .val (.int (8 : Int32)), .val (.int (3 : Int32)), .val (.ref w_VAL3)] [(.ref w_VAL3)])) rfl rfl (hb hby d1_21)
  refine own_st (T' := T10) (F' := (mkF m 24 #[.val (.int (3 : Int32)), .val (.ref b1), .val (.int (8 : Int32)), .val (.int (3 : Int32)), .val (.ref w_VAL3)] [(.int (3 : Int32))])) st10 ?_
  refine own_st (T' := T10) (F' := (mkF m 25 #[.val (.int (3 : Int32)), .val (.ref b1), .val (.int (8 : Int32)), .val (.int (3 : Int32)), .val (.ref w_VAL3)] [(.int (3 : Int32)), (.int (3 : Int32))])) (fun t k => XS.iloadN X10.here hx rfl (hb hby d1_24) rfl k) ?_
  refine own_st (T' := T10) (F' := (mkF m 28 #[.val (.int (3 : Int32)), .val (.ref b1), .val (.int (8 : Int32)), .val (.int (3 : Int32)), .val (.ref w_VAL3)] [])) (fun t k => XS.icmpNo X10.here hx rfl (hb hby d1_25) rfl (teq rfl).2 k) ?_
  refine own_st (T' := T10) (F' := (mkF m 30 #[.val (.int (3 : Int32)), .val (.ref b1), .val (.int (8 : Int32)), .val (.int (3 : Int32)), .val (.ref w_VAL3)] [(.ref w_VAL3)])) (fun t k => XS.aload X10.here hx rfl (hb hby d1_28) rfl rfl k) ?_
  exact own_retA X10 hx (t := (.object "com/example/turnleaf/turnleaf/token/KeyType")) Bd.returns rfl rfl (hb hby d1_30) hlk (by show QE Z (.ref w_VAL3) h0 _ T10.heap _; rw [e10]; exact ⟨rfl, N, E1⟩) (by decide) (by decide)
set_option maxRecDepth 65536 in
set_option maxHeartbeats 40000000 in
theorem rmX_3 (l : Launch) (Z : State) (a0 : Array Value) {w_VAL : Addr} {k_VAL : ClassId} {w_VAL0 : Addr} {w_VAL1 : Addr} {w_VAL2 : Addr} {w_VAL3 : Addr} {w_VAL4 : Addr} {w_VAL5 : Addr} {w_VAL6 : Addr} {w_VAL7 : Addr} (CX : Ctx Z a0 w_VAL k_VAL w_VAL0 w_VAL1 w_VAL2 w_VAL3 w_VAL4 w_VAL5 w_VAL6 w_VAL7) (ws : List Jvm.Cond)  (h0 : Heap) (O : Ext Z.heap h0)  :
    MetFree l (⟨"com/example/turnleaf/turnleaf/token/KeyTypeOfTagPinLaw", "expected", "(I)Lcom/example/turnleaf/turnleaf/token/KeyType;"⟩ : MethodName) (head1 (Jvm.Cond.code (⟨"com/example/turnleaf/turnleaf/token/KeyTypeOfTagPinLaw", "expected", "(I)Lcom/example/turnleaf/turnleaf/token/KeyType;"⟩ : MethodName) method_2_code 1 (some (.object "com/example/turnleaf/turnleaf/token/KeyType")) :: ws) ({ frames := 0, cells := 0, slots := 0, locals := 0 } : Room)) (fun a U => a = #[(.int (3 : Int32))] ∧ Z.Warmed39 U.vm ∧ U.heap = h0) (fun _ _ _ _ _ => True) (fun _ U o U' => ∃ v L, o = .returned v ∧ QP Z (.ref w_VAL3) h0 v U'.heap L ∧ FrameEnd U o U' L ({ frames := 0, cells := 0, slots := 0, locals := 0 } : Room).cells ({ frames := 0, cells := 0, slots := 0, locals := 0 } : Room).slots) := by
  refine MetFree.of_bodySF (plainFor_of_name pn_1) hisR ?_
  intro p e s m args below meth c s₁ Bd hml0 hP hK
  obtain ⟨rfl, hZ, hh⟩ := hP
  have CX0 := CX
  obtain ⟨hw, E_VAL0, E_VAL1, E_VAL2, E_VAL3, E_VAL4, E_VAL5, E_VAL6, E_VAL7, O_VAL0, O_VAL1, S_INTEGER, O_VAL2, O_VAL3, O_VAL4, S_DECIMAL, O_VAL5, O_VAL6, O_VAL7, S_NULL, S_SHORT, S_DOUBLE, S_LONG, S_TEXT, S_UUID, S_VAL, E_VAL, V_VAL, -⟩ := CX0
  have hx := Bd.exec
  have hby := Bd.bytes
  have hml : c.maxLocals = 1 := hml0
  have hown : s.vm.findClass "com/example/turnleaf/turnleaf/token/KeyTypeOfTagPinLaw" = some m.cls := findClass_of_methodNamed Bd.named
  have hnm := (name_of_methodNamed Bd.named Bd.method).1
  have hlk : meth.locks = false := BodyLoose.notSynchronized Bd
  have X0 : Stand p l e ({ frames := 0, cells := 0, slots := 0, locals := 0 } : Room) s m #[(.int (3 : Int32))] below meth c s₁ [] 0 0 := Stand.of_body Bd
  have e0 : s₁.heap = h0 := by rw [← hh, Bd.state]; rfl
  have N := Fr.nil Z.heap.size
  show own_Done p.tables e below (own_R (QP Z (.ref w_VAL3) h0) s 0 0) s₁ (entryFrame m #[(.int (3 : Int32))] 1)
  refine own_st (T' := s₁) (F' := (mkF m 0 #[.val (.int (3 : Int32))] [])) (fun t k => castTop (by first | rfl | (simp [entryFrame, mkF, argsToLocals, Value.category]; done)) k) ?_
  refine own_st (T' := s₁) (F' := (mkF m 1 #[.val (.int (3 : Int32))] [(.int (3 : Int32))])) (fun t k => XS.iloadN X0.here hx rfl (hb hby d3_0) rfl k) ?_
  refine own_st (T' := s₁) (F' := (mkF m 2 #[.val (.int (3 : Int32))] [(.int (1 : Int32)), (.int (3 : Int32))])) (fun t k => XS.iconst X0.here hx rfl (hb hby d3_1) k) ?_
  refine own_st (T' := s₁) (F' := (mkF m 9 #[.val (.int (3 : Int32))] [])) (fun t k => XS.icmpYes X0.here hx rfl (pc0 := 2) (pc' := 9) rfl (hb hby d3_2) rfl (feq (by decide : ¬ ((3 : Int32) = (1 : Int32)))).2 (by decide) (by decide) k) ?_
  refine own_st (T' := s₁) (F' := (mkF m 10 #[.val (.int (3 : Int32))] [(.int (3 : Int32))])) (fun t k => XS.iloadN X0.here hx rfl (hb hby d3_9) rfl k) ?_
  refine own_st (T' := s₁) (F' := (mkF m 11 #[.val (.int (3 : Int32))] [(.int (2 : Int32)), (.int (3 : Int32))])) (fun t k => XS.iconst X0.here hx rfl (hb hby d3_10) k) ?_
  refine own_st (T' := s₁) (F' := (mkF m 18 #[.val (.int (3 : Int32))] [])) (fun t k => XS.icmpYes X0.here hx rfl (pc0 := 11) (pc' := 18) rfl (hb hby d3_11) rfl (feq (by decide : ¬ ((3 : Int32) = (2 : Int32)))).2 (by decide) (by decide) k) ?_
  refine own_st (T' := s₁) (F' := (mkF m 19 #[.val (.int (3 : Int32))] [(.int (3 : Int32))])) (fun t k => XS.iloadN X0.here hx rfl (hb hby d3_18) rfl k) ?_
  refine own_st (T' := s₁) (F' := (mkF m 20 #[.val (.int (3 : Int32))] [(.int (3 : Int32)), (.int (3 : Int32))])) (fun t k => XS.iconst X0.here hx rfl (hb hby d3_19) k) ?_
  refine own_st (T' := s₁) (F' := (mkF m 23 #[.val (.int (3 : Int32))] [])) (fun t k => XS.icmpNo X0.here hx rfl (hb hby d3_20) rfl (teq rfl).2 k) ?_
  obtain ⟨T1, X1, e1, st1⟩ := getS2 X0 hx hZ hown (host := "") (Or.inl (hw _ (List.mem_of_getElem? (i := 48) rfl))) Via.refl e0 (S_DOUBLE.ext O) (g := (mkF m 23 #[.val (.int (3 : Int32))] [])) rfl (hb hby d3_23)
  refine own_st (T' := T1) (F' := (mkF m 26 #[.val (.int (3 : Int32))] [(.ref w_VAL3)])) st1 ?_
  exact own_retA X1 hx (t := (.object "com/example/turnleaf/turnleaf/token/KeyType")) Bd.returns rfl rfl (hb hby d3_26) hlk (by show QP Z (.ref w_VAL3) h0 _ T1.heap _; rw [e1]; exact ⟨rfl, N, rfl⟩) (by decide) (by decide)
set_option maxRecDepth 65536 in
set_option maxHeartbeats 40000000 in
theorem rmO_4 (l : Launch) (Z : State) (a0 : Array Value) {w_VAL : Addr} {k_VAL : ClassId} {w_VAL0 : Addr} {w_VAL1 : Addr} {w_VAL2 : Addr} {w_VAL3 : Addr} {w_VAL4 : Addr} {w_VAL5 : Addr} {w_VAL6 : Addr} {w_VAL7 : Addr} (CX : Ctx Z a0 w_VAL k_VAL w_VAL0 w_VAL1 w_VAL2 w_VAL3 w_VAL4 w_VAL5 w_VAL6 w_VAL7) (ws : List Jvm.Cond)  (h0 : Heap) (O : Ext Z.heap h0)  :
    MetFree l (⟨"com/example/turnleaf/turnleaf/token/KeyType", "ofTag", "(I)Lcom/example/turnleaf/turnleaf/token/KeyType;"⟩ : MethodName) (head1 (Jvm.Cond.code (⟨"com/example/turnleaf/turnleaf/token/KeyType", "ofTag", "(I)Lcom/example/turnleaf/turnleaf/token/KeyType;"⟩ : MethodName) prog_36_method_8_code 5 (some (.object "com/example/turnleaf/turnleaf/token/KeyType")) :: ws) ({ frames := 2, cells := 1, slots := 8, locals := 25 } : Room)) (fun a U => a = #[(.int (4 : Int32))] ∧ Z.Warmed39 U.vm ∧ U.heap = h0) (fun _ _ _ _ _ => True) (fun _ U o U' => ∃ v L, o = .returned v ∧ QE Z (.ref w_VAL4) h0 v U'.heap L ∧ FrameEnd U o U' L ({ frames := 2, cells := 1, slots := 8, locals := 25 } : Room).cells ({ frames := 2, cells := 1, slots := 8, locals := 25 } : Room).slots) := by
  refine MetFree.of_bodySF (plainFor_of_name pn_0) hisR ?_
  intro p e s m args below meth c s₁ Bd hml0 hP hK
  obtain ⟨rfl, hZ, hh⟩ := hP
  have CX0 := CX
  obtain ⟨hw, E_VAL0, E_VAL1, E_VAL2, E_VAL3, E_VAL4, E_VAL5, E_VAL6, E_VAL7, O_VAL0, O_VAL1, S_INTEGER, O_VAL2, O_VAL3, O_VAL4, S_DECIMAL, O_VAL5, O_VAL6, O_VAL7, S_NULL, S_SHORT, S_DOUBLE, S_LONG, S_TEXT, S_UUID, S_VAL, E_VAL, V_VAL, -⟩ := CX0
  have hx := Bd.exec
  have hby := Bd.bytes
  have hml : c.maxLocals = 5 := hml0
  have hown : s.vm.findClass "com/example/turnleaf/turnleaf/token/KeyType" = some m.cls := findClass_of_methodNamed Bd.named
  have hnm := (name_of_methodNamed Bd.named Bd.method).1
  have hlk : meth.locks = false := BodyLoose.notSynchronized Bd
  have X0 : Stand p l e ({ frames := 2, cells := 1, slots := 8, locals := 25 } : Room) s m #[(.int (4 : Int32))] below meth c s₁ [] 0 0 := Stand.of_body Bd
  have e0 : s₁.heap = h0 := by rw [← hh, Bd.state]; rfl
  have N := Fr.nil Z.heap.size
  show own_Done p.tables e below (own_R (QE Z (.ref w_VAL4) h0) s 1 8) s₁ (entryFrame m #[(.int (4 : Int32))] 5)
  refine own_st (T' := s₁) (F' := (mkF m 0 #[.val (.int (4 : Int32)), .unset, .unset, .unset, .unset] [])) (fun t k => castTop (by first | rfl | (simp [entryFrame, mkF, argsToLocals, Value.category]; done)) k) ?_
  obtain ⟨v1, _, ⟨T1, L1, k1, n1⟩, -, X1, ⟨Lc1, hQ1, l1, y1, z1⟩, st1⟩ := Jvm.LawKit.callS X0 hx (y := (⟨"com/example/turnleaf/turnleaf/token/KeyType", "values", "()[Lcom/example/turnleaf/turnleaf/token/KeyType;"⟩ : MethodName)) hown (mvT hZ (hw _ (List.mem_of_getElem? (i := 4) rfl))) (mvT hZ (hw _ (List.mem_of_getElem? (i := 5) rfl))) (mvT hZ (hw _ (List.mem_of_getElem? (i := 2) rfl))) (mvT hZ (hw _ (List.mem_of_getElem? (i := 6) rfl))) (by decide) (backOf (W := 0) (rm2 l Z a0 CX [] h0 O) hZ (hw _ (List.mem_of_getElem? (i := 6) rfl)) (hw _ (List.mem_of_getElem? (i := 2) rfl)) (by decide) (by decide)) (g := (mkF m 0 #[.val (.int (4 : Int32)), .unset, .unset, .unset, .unset] [])) rfl (by rw [hml]; rfl) (argsL := []) (rest := []) (lenOf pd_0 rfl) rfl (by show 2 * 0 + _ ≤ _; exact Nat.le_of_eq rfl) (hb hby d1_0) (fun _ _ => ⟨rfl, e0, (by decide : 0 + 1 ≤ _), (by decide : 0 + 8 ≤ _)⟩)
  dsimp only [Pt.U, Pt.locs, Pt.cells, Pt.slots] at X1 l1 y1 z1 st1 hQ1
  subst l1 y1 z1
  obtain ⟨rfl, N1q, E1, V1⟩ := hQ1
  have N := Fr.app N N1q
  obtain ⟨b1, g1⟩ : ∃ z, z = h0.size := ⟨_, rfl⟩
  rw [← g1] at V1 st1
  have g_b1 : Z.heap.size ≤ b1 := Nat.le_trans O.1 (Nat.le_of_eq g1.symm)
  have O := own_ext_trans O E1
  have V_b1 := V1
  refine own_st (T' := T1) (F' := (mkF m 3 #[.val (.int (4 : Int32)), .unset, .unset, .unset, .unset] [(.ref b1)])) st1 ?_
  refine own_st (T' := T1) (F' := (mkF m 4 #[.val (.int (4 : Int32)), .val (.ref b1), .unset, .unset, .unset] [])) (fun t k => XS.astoreN X1.here hx rfl (hb hby d1_3) rfl rfl (l' := #[.val (.int (4 : Int32)), .val (.ref b1), .unset, .unset, .unset]) rfl k) ?_
  refine own_st (T' := T1) (F' := (mkF m 5 #[.val (.int (4 : Int32)), .val (.ref b1), .unset, .unset, .unset] [(.ref b1)])) (fun t k => XS.aloadN X1.here hx rfl (hb hby d1_4) rfl rfl k) ?_
  have V2 := V_b1
  obtain ⟨cl2, Ar2, qa2, Sa2, Na2, Ha2, Ga2⟩ := V2
  refine own_st (T' := T1) (F' := (mkF m 6 #[.val (.int (4 : Int32)), .val (.ref b1), .unset, .unset, .unset] [(.int (8 : Int32))])) (fun t k => X1.arraylength hx Ar2.1 (State.isArrayOf_alike hZ.alike Ar2.2.1) (g := (mkF m 5 #[.val (.int (4 : Int32)), .val (.ref b1), .unset, .unset, .unset] [(.ref b1)])) rfl rfl (hb hby d1_5) _ (by rw [(len_of Sa2 Na2)]; exact k)) ?_
  refine own_st (T' := T1) (F' := (mkF m 7 #[.val (.int (4 : Int32)), .val (.ref b1), .val (.int (8 : Int32)), .unset, .unset] [])) (fun t k => XS.istoreN X1.here hx rfl (hb hby d1_6) rfl (l' := #[.val (.int (4 : Int32)), .val (.ref b1), .val (.int (8 : Int32)), .unset, .unset]) rfl k) ?_
  refine own_st (T' := T1) (F' := (mkF m 8 #[.val (.int (4 : Int32)), .val (.ref b1), .val (.int (8 : Int32)), .unset, .unset] [(.int (0 : Int32))])) (fun t k => XS.iconst X1.here hx rfl (hb hby d1_7) k) ?_
  refine own_st (T' := T1) (F' := (mkF m 9 #[.val (.int (4 : Int32)), .val (.ref b1), .val (.int (8 : Int32)), .val (.int (0 : Int32)), .unset] [])) (fun t k => XS.istoreN X1.here hx rfl (hb hby d1_8) rfl (l' := #[.val (.int (4 : Int32)), .val (.ref b1), .val (.int (8 : Int32)), .val (.int (0 : Int32)), .unset]) rfl k) ?_
  refine own_st (T' := T1) (F' := (mkF m 10 #[.val (.int (4 : Int32)), .val (.ref b1), .val (.int (8 : Int32)), .val (.int (0 : Int32)), .unset] [(.int (0 : Int32))])) (fun t k => XS.iloadN X1.here hx rfl (hb hby d1_9) rfl k) ?_
  refine own_st (T' := T1) (F' := (mkF m 11 #[.val (.int (4 : Int32)), .val (.ref b1), .val (.int (8 : Int32)), .val (.int (0 : Int32)), .unset] [(.int (8 : Int32)), (.int (0 : Int32))])) (fun t k => XS.iloadN X1.here hx rfl (hb hby d1_10) rfl k) ?_
  refine own_st (T' := T1) (F' := (mkF m 14 #[.val (.int (4 : Int32)), .val (.ref b1), .val (.int (8 : Int32)), .val (.int (0 : Int32)), .unset] [])) (fun t k => XS.icmpNo X1.here hx rfl (hb hby d1_11) rfl (tlt (by decide : ((0 : Int32) < (8 : Int32)))).2.1 k) ?_
  refine own_st (T' := T1) (F' := (mkF m 15 #[.val (.int (4 : Int32)), .val (.ref b1), .val (.int (8 : Int32)), .val (.int (0 : Int32)), .unset] [(.ref b1)])) (fun t k => XS.aloadN X1.here hx rfl (hb hby d1_14) rfl rfl k) ?_
  refine own_st (T' := T1) (F' := (mkF m 16 #[.val (.int (4 : Int32)), .val (.ref b1), .val (.int (8 : Int32)), .val (.int (0 : Int32)), .unset] [(.int (0 : Int32)), (.ref b1)])) (fun t k => XS.iloadN X1.here hx rfl (hb hby d1_15) rfl k) ?_
  have V3 := V_b1
  obtain ⟨cl3, Ar3, qa3, Sa3, Na3, Ha3, Ga3⟩ := V3
  have hin3 : ¬ ((0 : Int32) < 0 ∨ cl3.slots.size ≤ ((0 : Int32)).toNatClampNeg) := inb_of Sa3 ⟨by decide, by decide⟩
  have hat3 : cl3.slots[((0 : Int32)).toNatClampNeg]? = some (.ref w_VAL0) := Has.at Ha3 hin3 rfl
  refine own_st (T' := T1) (F' := (mkF m 17 #[.val (.int (4 : Int32)), .val (.ref b1), .val (.int (8 : Int32)), .val (.int (0 : Int32)), .unset] [(.ref w_VAL0)])) (fun t k => X1.aaload hx (j := (0 : Int32)) (v := (.ref w_VAL0)) Ar3.1 (State.isArrayOf_alike hZ.alike Ar3.2.1) rfl Ar3.2.2 hin3 hat3 (g := (mkF m 16 #[.val (.int (4 : Int32)), .val (.ref b1), .val (.int (8 : Int32)), .val (.int (0 : Int32)), .unset] [(.int (0 : Int32)), (.ref b1)])) rfl rfl (hb hby d1_16) _ k) ?_
  refine own_st (T' := T1) (F' := (mkF m 19 #[.val (.int (4 : Int32)), .val (.ref b1), .val (.int (8 : Int32)), .val (.int (0 : Int32)), .val (.ref w_VAL0)] [])) (fun t k => XS.astore X1.here hx rfl (hb hby d1_17) rfl rfl (l' := #[.val (.int (4 : Int32)), .val (.ref b1), .val (.int (8 : Int32)), .val (.int (0 : Int32)), .val (.ref w_VAL0)]) rfl k) ?_
  refine own_st (T' := T1) (F' := (mkF m 21 #[.val (.int (4 : Int32)), .val (.ref b1), .val (.int (8 : Int32)), .val (.int (0 : Int32)), .val (.ref w_VAL0)] [(.ref w_VAL0)])) (fun t k => XS.aload X1.here hx rfl (hb hby d1_19) rfl rfl k) ?_
  obtain ⟨T4, X4, e4, st4⟩ := getF X1 hx hZ hown (host := "") (Or.inl (hw _ (List.mem_of_getElem? (i := 19) rfl))) Via.refl rfl (O_VAL0.ext O) (g := (mkF m 21 #[.val (.int (4 : Int32)), .val (.ref b1), .val (.int (8 : Int32)), .val (.int (0 : Int32)), .val (.ref w_VAL0)] [(.ref w_VAL0)])) rfl rfl (hb hby d1_21)
  refine own_st (T' := T4) (F' := (mkF m 24 #[.val (.int (4 : Int32)), .val (.ref b1), .val (.int (8 : Int32)), .val (.int (0 : Int32)), .val (.ref w_VAL0)] [(.int (8 : Int32))])) st4 ?_
  refine own_st (T' := T4) (F' := (mkF m 25 #[.val (.int (4 : Int32)), .val (.ref b1), .val (.int (8 : Int32)), .val (.int (0 : Int32)), .val (.ref w_VAL0)] [(.int (4 : Int32)), (.int (8 : Int32))])) (fun t k => XS.iloadN X4.here hx rfl (hb hby d1_24) rfl k) ?_
  refine own_st (T' := T4) (F' := (mkF m 31 #[.val (.int (4 : Int32)), .val (.ref b1), .val (.int (8 : Int32)), .val (.int (0 : Int32)), .val (.ref w_VAL0)] [])) (fun t k => XS.icmpYes X4.here hx rfl (pc0 := 25) (pc' := 31) rfl (hb hby d1_25) rfl (feq (by decide : ¬ ((8 : Int32) = (4 : Int32)))).2 (by decide) (by decide) k) ?_
  refine own_st (T' := T4) (F' := (mkF m 34 #[.val (.int (4 : Int32)), .val (.ref b1), .val (.int (8 : Int32)), .val (.int (1 : Int32)), .val (.ref w_VAL0)] [])) (fun t k => XS.iinc X4.here hx rfl (hb hby d1_31) rfl (l' := #[.val (.int (4 : Int32)), .val (.ref b1), .val (.int (8 : Int32)), .val (.int (1 : Int32)), .val (.ref w_VAL0)]) rfl k) ?_
  refine own_st (T' := T4) (F' := (mkF m 9 #[.val (.int (4 : Int32)), .val (.ref b1), .val (.int (8 : Int32)), .val (.int (1 : Int32)), .val (.ref w_VAL0)] [])) (fun t k => XS.goto X4.here hx rfl (pc0 := 34) (pc' := 9) rfl (hb hby d1_34) (by decide) (by decide) k) ?_
  refine own_st (T' := T4) (F' := (mkF m 10 #[.val (.int (4 : Int32)), .val (.ref b1), .val (.int (8 : Int32)), .val (.int (1 : Int32)), .val (.ref w_VAL0)] [(.int (1 : Int32))])) (fun t k => XS.iloadN X4.here hx rfl (hb hby d1_9) rfl k) ?_
  refine own_st (T' := T4) (F' := (mkF m 11 #[.val (.int (4 : Int32)), .val (.ref b1), .val (.int (8 : Int32)), .val (.int (1 : Int32)), .val (.ref w_VAL0)] [(.int (8 : Int32)), (.int (1 : Int32))])) (fun t k => XS.iloadN X4.here hx rfl (hb hby d1_10) rfl k) ?_
  refine own_st (T' := T4) (F' := (mkF m 14 #[.val (.int (4 : Int32)), .val (.ref b1), .val (.int (8 : Int32)), .val (.int (1 : Int32)), .val (.ref w_VAL0)] [])) (fun t k => XS.icmpNo X4.here hx rfl (hb hby d1_11) rfl (tlt (by decide : ((1 : Int32) < (8 : Int32)))).2.1 k) ?_
  refine own_st (T' := T4) (F' := (mkF m 15 #[.val (.int (4 : Int32)), .val (.ref b1), .val (.int (8 : Int32)), .val (.int (1 : Int32)), .val (.ref w_VAL0)] [(.ref b1)])) (fun t k => XS.aloadN X4.here hx rfl (hb hby d1_14) rfl rfl k) ?_
  refine own_st (T' := T4) (F' := (mkF m 16 #[.val (.int (4 : Int32)), .val (.ref b1), .val (.int (8 : Int32)), .val (.int (1 : Int32)), .val (.ref w_VAL0)] [(.int (1 : Int32)), (.ref b1)])) (fun t k => XS.iloadN X4.here hx rfl (hb hby d1_15) rfl k) ?_
  have V5 := V_b1
  obtain ⟨cl5, Ar5, qa5, Sa5, Na5, Ha5, Ga5⟩ := V5
  have hin5 : ¬ ((1 : Int32) < 0 ∨ cl5.slots.size ≤ ((1 : Int32)).toNatClampNeg) := inb_of Sa5 ⟨by decide, by decide⟩
  have hat5 : cl5.slots[((1 : Int32)).toNatClampNeg]? = some (.ref w_VAL1) := Has.at Ha5 hin5 rfl
  refine own_st (T' := T4) (F' := (mkF m 17 #[.val (.int (4 : Int32)), .val (.ref b1), .val (.int (8 : Int32)), .val (.int (1 : Int32)), .val (.ref w_VAL0)] [(.ref w_VAL1)])) (fun t k => X4.aaload hx (j := (1 : Int32)) (v := (.ref w_VAL1)) (by rw [e4]; exact Ar5.1) (State.isArrayOf_alike hZ.alike Ar5.2.1) rfl Ar5.2.2 hin5 hat5 (g := (mkF m 16 #[.val (.int (4 : Int32)), .val (.ref b1), .val (.int (8 : Int32)), .val (.int (1 : Int32)), .val (.ref w_VAL0)] [(.int (1 : Int32)), (.ref b1)])) rfl rfl (hb hby d1_16) _ k) ?_
  refine own_st (T' := T4) (F' := (mkF m 19 #[.val (.int (4 : Int32)), .val (.ref b1), .val (.int (8 : Int32)), .val (.int (1 : Int32)), .val (.ref w_VAL1)] [])) (fun t k => XS.astore X4.here hx rfl (hb hby d1_17) rfl rfl (l' := #[.val (.int (4 : Int32)), .val (.ref b1), .val (.int (8 : Int32)), .val (.int (1 : Int32)), .val (.ref w_VAL1)]) rfl k) ?_
  refine own_st (T' := T4) (F' := (mkF m 21 #[.val (.int (4 : Int32)), .val (.ref b1), .val (.int (8 : Int32)), .val (.int (1 : Int32)), .val (.ref w_VAL1)] [(.ref w_VAL1)])) (fun t k => XS.aload X4.here hx rfl (hb hby d1_19) rfl rfl k) ?_
  obtain ⟨T6, X6, e6, st6⟩ := getF X4 hx hZ hown (host := "") (Or.inl (hw _ (List.mem_of_getElem? (i := 19) rfl))) Via.refl e4 (O_VAL1.ext O) (g := (mkF m 21 #[.val (.int (4 : Int32)), .val (.ref b1), .val (.int (8 : Int32)), .val (.int (1 : Int32)), .val (.ref w_VAL1)] [(.ref w_VAL1)])) rfl rfl (hb hby d1_21)
  refine own_st (T' := T6) (F' := (mkF m 24 #[.val (.int (4 : Int32)), .val (.ref b1), .val (.int (8 : Int32)), .val (.int (1 : Int32)), .val (.ref w_VAL1)] [(.int (1 : Int32))])) st6 ?_
  refine own_st (T' := T6) (F' := (mkF m 25 #[.val (.int (4 : Int32)), .val (.ref b1), .val (.int (8 : Int32)), .val (.int (1 : Int32)), .val (.ref w_VAL1)] [(.int (4 : Int32)), (.int (1 : Int32))])) (fun t k => XS.iloadN X6.here hx rfl (hb hby d1_24) rfl k) ?_
  refine own_st (T' := T6) (F' := (mkF m 31 #[.val (.int (4 : Int32)), .val (.ref b1), .val (.int (8 : Int32)), .val (.int (1 : Int32)), .val (.ref w_VAL1)] [])) (fun t k => XS.icmpYes X6.here hx rfl (pc0 := 25) (pc' := 31) rfl (hb hby d1_25) rfl (feq (by decide : ¬ ((1 : Int32) = (4 : Int32)))).2 (by decide) (by decide) k) ?_
  refine own_st (T' := T6) (F' := (mkF m 34 #[.val (.int (4 : Int32)), .val (.ref b1), .val (.int (8 : Int32)), .val (.int (2 : Int32)), .val (.ref w_VAL1)] [])) (fun t k => XS.iinc X6.here hx rfl (hb hby d1_31) rfl (l' := #[.val (.int (4 : Int32)), .val (.ref b1), .val (.int (8 : Int32)), .val (.int (2 : Int32)), .val (.ref w_VAL1)]) rfl k) ?_
  refine own_st (T' := T6) (F' := (mkF m 9 #[.val (.int (4 : Int32)), .val (.ref b1), .val (.int (8 : Int32)), .val (.int (2 : Int32)), .val (.ref w_VAL1)] [])) (fun t k => XS.goto X6.here hx rfl (pc0 := 34) (pc' := 9) rfl (hb hby d1_34) (by decide) (by decide) k) ?_
  refine own_st (T' := T6) (F' := (mkF m 10 #[.val (.int (4 : Int32)), .val (.ref b1), .val (.int (8 : Int32)), .val (.int (2 : Int32)), .val (.ref w_VAL1)] [(.int (2 : Int32))])) (fun t k => XS.iloadN X6.here hx rfl (hb hby d1_9) rfl k) ?_
  refine own_st (T' := T6) (F' := (mkF m 11 #[.val (.int (4 : Int32)), .val (.ref b1), .val (.int (8 : Int32)), .val (.int (2 : Int32)), .val (.ref w_VAL1)] [(.int (8 : Int32)), (.int (2 : Int32))])) (fun t k => XS.iloadN X6.here hx rfl (hb hby d1_10) rfl k) ?_
  refine own_st (T' := T6) (F' := (mkF m 14 #[.val (.int (4 : Int32)), .val (.ref b1), .val (.int (8 : Int32)), .val (.int (2 : Int32)), .val (.ref w_VAL1)] [])) (fun t k => XS.icmpNo X6.here hx rfl (hb hby d1_11) rfl (tlt (by decide : ((2 : Int32) < (8 : Int32)))).2.1 k) ?_
  refine own_st (T' := T6) (F' := (mkF m 15 #[.val (.int (4 : Int32)), .val (.ref b1), .val (.int (8 : Int32)), .val (.int (2 : Int32)), .val (.ref w_VAL1)] [(.ref b1)])) (fun t k => XS.aloadN X6.here hx rfl (hb hby d1_14) rfl rfl k) ?_
  refine own_st (T' := T6) (F' := (mkF m 16 #[.val (.int (4 : Int32)), .val (.ref b1), .val (.int (8 : Int32)), .val (.int (2 : Int32)), .val (.ref w_VAL1)] [(.int (2 : Int32)), (.ref b1)])) (fun t k => XS.iloadN X6.here hx rfl (hb hby d1_15) rfl k) ?_
  have V7 := V_b1
  obtain ⟨cl7, Ar7, qa7, Sa7, Na7, Ha7, Ga7⟩ := V7
  have hin7 : ¬ ((2 : Int32) < 0 ∨ cl7.slots.size ≤ ((2 : Int32)).toNatClampNeg) := inb_of Sa7 ⟨by decide, by decide⟩
  have hat7 : cl7.slots[((2 : Int32)).toNatClampNeg]? = some (.ref w_VAL2) := Has.at Ha7 hin7 rfl
  refine own_st (T' := T6) (F' := (mkF m 17 #[.val (.int (4 : Int32)), .val (.ref b1), .val (.int (8 : Int32)), .val (.int (2 : Int32)), .val (.ref w_VAL1)] [(.ref w_VAL2)])) (fun t k => X6.aaload hx (j := (2 : Int32)) (v := (.ref w_VAL2)) (by rw [e6]; exact Ar7.1) (State.isArrayOf_alike hZ.alike Ar7.2.1) rfl Ar7.2.2 hin7 hat7 (g := (mkF m 16 #[.val (.int (4 : Int32)), .val (.ref b1), .val (.int (8 : Int32)), .val (.int (2 : Int32)), .val (.ref w_VAL1)] [(.int (2 : Int32)), (.ref b1)])) rfl rfl (hb hby d1_16) _ k) ?_
  refine own_st (T' := T6) (F' := (mkF m 19 #[.val (.int (4 : Int32)), .val (.ref b1), .val (.int (8 : Int32)), .val (.int (2 : Int32)), .val (.ref w_VAL2)] [])) (fun t k => XS.astore X6.here hx rfl (hb hby d1_17) rfl rfl (l' := #[.val (.int (4 : Int32)), .val (.ref b1), .val (.int (8 : Int32)), .val (.int (2 : Int32)), .val (.ref w_VAL2)]) rfl k) ?_
  refine own_st (T' := T6) (F' := (mkF m 21 #[.val (.int (4 : Int32)), .val (.ref b1), .val (.int (8 : Int32)), .val (.int (2 : Int32)), .val (.ref w_VAL2)] [(.ref w_VAL2)])) (fun t k => XS.aload X6.here hx rfl (hb hby d1_19) rfl rfl k) ?_
  obtain ⟨T8, X8, e8, st8⟩ := getF X6 hx hZ hown (host := "") (Or.inl (hw _ (List.mem_of_getElem? (i := 19) rfl))) Via.refl e6 (O_VAL2.ext O) (g := (mkF m 21 #[.val (.int (4 : Int32)), .val (.ref b1), .val (.int (8 : Int32)), .val (.int (2 : Int32)), .val (.ref w_VAL2)] [(.ref w_VAL2)])) rfl rfl (hb hby d1_21)
  refine own_st (T' := T8) (F' := (mkF m 24 #[.val (.int (4 : Int32)), .val (.ref b1), .val (.int (8 : Int32)), .val (.int (2 : Int32)), .val (.ref w_VAL2)] [(.int (2 : Int32))])) st8 ?_
  refine own_st (T' := T8) (F' := (mkF m 25 #[.val (.int (4 : Int32)), .val (.ref b1), .val (.int (8 : Int32)), .val (.int (2 : Int32)), .val (.ref w_VAL2)] [(.int (4 : Int32)), (.int (2 : Int32))])) (fun t k => XS.iloadN X8.here hx rfl (hb hby d1_24) rfl k) ?_
  refine own_st (T' := T8) (F' := (mkF m 31 #[.val (.int (4 : Int32)), .val (.ref b1), .val (.int (8 : Int32)), .val (.int (2 : Int32)), .val (.ref w_VAL2)] [])) (fun t k => XS.icmpYes X8.here hx rfl (pc0 := 25) (pc' := 31) rfl (hb hby d1_25) rfl (feq (by decide : ¬ ((2 : Int32) = (4 : Int32)))).2 (by decide) (by decide) k) ?_
  refine own_st (T' := T8) (F' := (mkF m 34 #[.val (.int (4 : Int32)), .val (.ref b1), .val (.int (8 : Int32)), .val (.int (3 : Int32)), .val (.ref w_VAL2)] [])) (fun t k => XS.iinc X8.here hx rfl (hb hby d1_31) rfl (l' := #[.val (.int (4 : Int32)), .val (.ref b1), .val (.int (8 : Int32)), .val (.int (3 : Int32)), .val (.ref w_VAL2)]) rfl k) ?_
  refine own_st (T' := T8) (F' := (mkF m 9 #[.val (.int (4 : Int32)), .val (.ref b1), .val (.int (8 : Int32)), .val (.int (3 : Int32)), .val (.ref w_VAL2)] [])) (fun t k => XS.goto X8.here hx rfl (pc0 := 34) (pc' := 9) rfl (hb hby d1_34) (by decide) (by decide) k) ?_
  refine own_st (T' := T8) (F' := (mkF m 10 #[.val (.int (4 : Int32)), .val (.ref b1), .val (.int (8 : Int32)), .val (.int (3 : Int32)), .val (.ref w_VAL2)] [(.int (3 : Int32))])) (fun t k => XS.iloadN X8.here hx rfl (hb hby d1_9) rfl k) ?_
  refine own_st (T' := T8) (F' := (mkF m 11 #[.val (.int (4 : Int32)), .val (.ref b1), .val (.int (8 : Int32)), .val (.int (3 : Int32)), .val (.ref w_VAL2)] [(.int (8 : Int32)), (.int (3 : Int32))])) (fun t k => XS.iloadN X8.here hx rfl (hb hby d1_10) rfl k) ?_
  refine own_st (T' := T8) (F' := (mkF m 14 #[.val (.int (4 : Int32)), .val (.ref b1), .val (.int (8 : Int32)), .val (.int (3 : Int32)), .val (.ref w_VAL2)] [])) (fun t k => XS.icmpNo X8.here hx rfl (hb hby d1_11) rfl (tlt (by decide : ((3 : Int32) < (8 : Int32)))).2.1 k) ?_
  refine own_st (T' := T8) (F' := (mkF m 15 #[.val (.int (4 : Int32)), .val (.ref b1), .val (.int (8 : Int32)), .val (.int (3 : Int32)), .val (.ref w_VAL2)] [(.ref b1)])) (fun t k => XS.aloadN X8.here hx rfl (hb hby d1_14) rfl rfl k) ?_
  refine own_st (T' := T8) (F' := (mkF m 16 #[.val (.int (4 : Int32)), .val (.ref b1), .val (.int (8 : Int32)), .val (.int (3 : Int32)), .val (.ref w_VAL2)] [(.int (3 : Int32)), (.ref b1)])) (fun t k => XS.iloadN X8.here hx rfl (hb hby d1_15) rfl k) ?_
  have V9 := V_b1
  obtain ⟨cl9, Ar9, qa9, Sa9, Na9, Ha9, Ga9⟩ := V9
  have hin9 : ¬ ((3 : Int32) < 0 ∨ cl9.slots.size ≤ ((3 : Int32)).toNatClampNeg) := inb_of Sa9 ⟨by decide, by decide⟩
  have hat9 : cl9.slots[((3 : Int32)).toNatClampNeg]? = some (.ref w_VAL3) := Has.at Ha9 hin9 rfl
  refine own_st (T' := T8) (F' := (mkF m 17 #[.val (.int (4 : Int32)), .val (.ref b1), .val (.int (8 : Int32)), .val (.int (3 : Int32)), .val (.ref w_VAL2)] [(.ref w_VAL3)])) (fun t k => X8.aaload hx (j := (3 : Int32)) (v := (.ref w_VAL3)) (by rw [e8]; exact Ar9.1) (State.isArrayOf_alike hZ.alike Ar9.2.1) rfl Ar9.2.2 hin9 hat9 (g := (mkF m 16 #[.val (.int (4 : Int32)), .val (.ref b1), .val (.int (8 : Int32)), .val (.int (3 : Int32)), .val (.ref w_VAL2)] [(.int (3 : Int32)), (.ref b1)])) rfl rfl (hb hby d1_16) _ k) ?_
  refine own_st (T' := T8) (F' := (mkF m 19 #[.val (.int (4 : Int32)), .val (.ref b1), .val (.int (8 : Int32)), .val (.int (3 : Int32)), .val (.ref w_VAL3)] [])) (fun t k => XS.astore X8.here hx rfl (hb hby d1_17) rfl rfl (l' := #[.val (.int (4 : Int32)), .val (.ref b1), .val (.int (8 : Int32)), .val (.int (3 : Int32)), .val (.ref w_VAL3)]) rfl k) ?_
  refine own_st (T' := T8) (F' := (mkF m 21 #[.val (.int (4 : Int32)), .val (.ref b1), .val (.int (8 : Int32)), .val (.int (3 : Int32)), .val (.ref w_VAL3)] [(.ref w_VAL3)])) (fun t k => XS.aload X8.here hx rfl (hb hby d1_19) rfl rfl k) ?_
  obtain ⟨T10, X10, e10, st10⟩ := getF X8 hx hZ hown (host := "") (Or.inl (hw _ (List.mem_of_getElem? (i := 19) rfl))) Via.refl e8 (O_VAL3.ext O) (g := (mkF m 21 #[.val (.int (4 : Int32)), .val (.ref b1), .val (.int (8 : Int32)), .val (.int (3 : Int32)), .val (.ref w_VAL3)] [(.ref w_VAL3)])) rfl rfl (hb hby d1_21)
  refine own_st (T' := T10) (F' := (mkF m 24 #[.val (.int (4 : Int32)), .val (.ref b1), .val (.int (8 : Int32)), .val (.int (3 : Int32)), .val (.ref w_VAL3)] [(.int (3 : Int32))])) st10 ?_
  refine own_st (T' := T10) (F' := (mkF m 25 #[.val (.int (4 : Int32)), .val (.ref b1), .val (.int (8 : Int32)), .val (.int (3 : Int32)), .val (.ref w_VAL3)] [(.int (4 : Int32)), (.int (3 : Int32))])) (fun t k => XS.iloadN X10.here hx rfl (hb hby d1_24) rfl k) ?_
  refine own_st (T' := T10) (F' := (mkF m 31 #[.val (.int (4 : Int32)), .val (.ref b1), .val (.int (8 : Int32)), .val (.int (3 : Int32)), .val (.ref w_VAL3)] [])) (fun t k => XS.icmpYes X10.here hx rfl (pc0 := 25) (pc' := 31) rfl (hb hby d1_25) rfl (feq (by decide : ¬ ((3 : Int32) = (4 : Int32)))).2 (by decide) (by decide) k) ?_
  refine own_st (T' := T10) (F' := (mkF m 34 #[.val (.int (4 : Int32)), .val (.ref b1), .val (.int (8 : Int32)), .val (.int (4 : Int32)), .val (.ref w_VAL3)] [])) (fun t k => XS.iinc X10.here hx rfl (hb hby d1_31) rfl (l' := #[.val (.int (4 : Int32)), .val (.ref b1), .val (.int (8 : Int32)), .val (.int (4 : Int32)), .val (.ref w_VAL3)]) rfl k) ?_
  refine own_st (T' := T10) (F' := (mkF m 9 #[.val (.int (4 : Int32)), .val (.ref b1), .val (.int (8 : Int32)), .val (.int (4 : Int32)), .val (.ref w_VAL3)] [])) (fun t k => XS.goto X10.here hx rfl (pc0 := 34) (pc' := 9) rfl (hb hby d1_34) (by decide) (by decide) k) ?_
  refine own_st (T' := T10) (F' := (mkF m 10 #[.val (.int (4 : Int32)), .val (.ref b1), .val (.int (8 : Int32)), .val (.int (4 : Int32)), .val (.ref w_VAL3)] [(.int (4 : Int32))])) (fun t k => XS.iloadN X10.here hx rfl (hb hby d1_9) rfl k) ?_
  refine own_st (T' := T10) (F' := (mkF m 11 #[.val (.int (4 : Int32)), .val (.ref b1), .val (.int (8 : Int32)), .val (.int (4 : Int32)), .val (.ref w_VAL3)] [(.int (8 : Int32)), (.int (4 : Int32))])) (fun t k => XS.iloadN X10.here hx rfl (hb hby d1_10) rfl k) ?_
  refine own_st (T' := T10) (F' := (mkF m 14 #[.val (.int (4 : Int32)), .val (.ref b1), .val (.int (8 : Int32)), .val (.int (4 : Int32)), .val (.ref w_VAL3)] [])) (fun t k => XS.icmpNo X10.here hx rfl (hb hby d1_11) rfl (tlt (by decide : ((4 : Int32) < (8 : Int32)))).2.1 k) ?_
  refine own_st (T' := T10) (F' := (mkF m 15 #[.val (.int (4 : Int32)), .val (.ref b1), .val (.int (8 : Int32)), .val (.int (4 : Int32)), .val (.ref w_VAL3)] [(.ref b1)])) (fun t k => XS.aloadN X10.here hx rfl (hb hby d1_14) rfl rfl k) ?_
  refine own_st (T' := T10) (F' := (mkF m 16 #[.val (.int (4 : Int32)), .val (.ref b1), .val (.int (8 : Int32)), .val (.int (4 : Int32)), .val (.ref w_VAL3)] [(.int (4 : Int32)), (.ref b1)])) (fun t k => XS.iloadN X10.here hx rfl (hb hby d1_15) rfl k) ?_
  have V11 := V_b1
  obtain ⟨cl11, Ar11, qa11, Sa11, Na11, Ha11, Ga11⟩ := V11
  have hin11 : ¬ ((4 : Int32) < 0 ∨ cl11.slots.size ≤ ((4 : Int32)).toNatClampNeg) := inb_of Sa11 ⟨by decide, by decide⟩
  have hat11 : cl11.slots[((4 : Int32)).toNatClampNeg]? = some (.ref w_VAL4) := Has.at Ha11 hin11 rfl
  refine own_st (T' := T10) (F' := (mkF m 17 #[.val (.int (4 : Int32)), .val (.ref b1), .val (.int (8 : Int32)), .val (.int (4 : Int32)), .val (.ref w_VAL3)] [(.ref w_VAL4)])) (fun t k => X10.aaload hx (j := (4 : Int32)) (v := (.ref w_VAL4)) (by rw [e10]; exact Ar11.1) (State.isArrayOf_alike hZ.alike Ar11.2.1) rfl Ar11.2.2 hin11 hat11 (g := (mkF m 16 #[.val (.int (4 : Int32)), .val (.ref b1), .val (.int (8 : Int32)), .val (.int (4 : Int32)), .val (.ref w_VAL3)] [(.int (4 : Int32)), (.ref b1)])) rfl rfl (hb hby d1_16) _ k) ?_
  refine own_st (T' := T10) (F' := (mkF m 19 #[.val (.int (4 : Int32)), .val (.ref b1), .val (.int (8 : Int32)), .val (.int (4 : Int32)), .val (.ref w_VAL4)] [])) (fun t k => XS.astore X10.here hx rfl (hb hby d1_17) rfl rfl (l' := #[.val (.int (4 : Int32)), .val (.ref b1), .val (.int (8 : Int32)), .val (.int (4 : Int32)), .val (.ref w_VAL4)]) rfl k) ?_
  refine own_st (T' := T10) (F' := (mkF m 21 #[.val (.int (4 : Int32)), .val (.ref b1), .val (.int (8 : Int32)), .val (.int (4 : Int32)), .val (.ref w_VAL4)] [(.ref w_VAL4)])) (fun t k => XS.aload X10.here hx rfl (hb hby d1_19) rfl rfl k) ?_
  obtain ⟨T12, X12, e12, st12⟩ := getF X10 hx hZ hown (host := "") (Or.inl (hw _ (List.mem_of_getElem? (i := 19) rfl))) Via.refl e10 (O_VAL4.ext O) (g := (mkF m 21 #[.val (.int (4 : Int32)), .val (.ref b1), .val (.int (8 : Int32)), .val (.int (4 : Int32)), .val (.ref w_VAL4)] [(.ref w_VAL4)])) rfl rfl (hb hby d1_21)
  refine own_st (T' := T12) (F' := (mkF m 24 #[.val (.int (4 : Int32)), .val (.ref b1), .val (.int (8 : Int32)), .val (.int (4 : Int32)), .val (.ref w_VAL4)] [(.int (4 : Int32))])) st12 ?_
  refine own_st (T' := T12) (F' := (mkF m 25 #[.val (.int (4 : Int32)), .val (.ref b1), .val (.int (8 : Int32)), .val (.int (4 : Int32)), .val (.ref w_VAL4)] [(.int (4 : Int32)), (.int (4 : Int32))])) (fun t k => XS.iloadN X12.here hx rfl (hb hby d1_24) rfl k) ?_
  refine own_st (T' := T12) (F' := (mkF m 28 #[.val (.int (4 : Int32)), .val (.ref b1), .val (.int (8 : Int32)), .val (.int (4 : Int32)), .val (.ref w_VAL4)] [])) (fun t k => XS.icmpNo X12.here hx rfl (hb hby d1_25) rfl (teq rfl).2 k) ?_
  refine own_st (T' := T12) (F' := (mkF m 30 #[.val (.int (4 : Int32)), .val (.ref b1), .val (.int (8 : Int32)), .val (.int (4 : Int32)), .val (.ref w_VAL4)] [(.ref w_VAL4)])) (fun t k => XS.aload X12.here hx rfl (hb hby d1_28) rfl rfl k) ?_
  exact own_retA X12 hx (t := (.object "com/example/turnleaf/turnleaf/token/KeyType")) Bd.returns rfl rfl (hb hby d1_30) hlk (by show QE Z (.ref w_VAL4) h0 _ T12.heap _; rw [e12]; exact ⟨rfl, N, E1⟩) (by decide) (by decide)
set_option maxRecDepth 65536 in
set_option maxHeartbeats 40000000 in
theorem rmX_4 (l : Launch) (Z : State) (a0 : Array Value) {w_VAL : Addr} {k_VAL : ClassId} {w_VAL0 : Addr} {w_VAL1 : Addr} {w_VAL2 : Addr} {w_VAL3 : Addr} {w_VAL4 : Addr} {w_VAL5 : Addr} {w_VAL6 : Addr} {w_VAL7 : Addr} (CX : Ctx Z a0 w_VAL k_VAL w_VAL0 w_VAL1 w_VAL2 w_VAL3 w_VAL4 w_VAL5 w_VAL6 w_VAL7) (ws : List Jvm.Cond)  (h0 : Heap) (O : Ext Z.heap h0)  :
    MetFree l (⟨"com/example/turnleaf/turnleaf/token/KeyTypeOfTagPinLaw", "expected", "(I)Lcom/example/turnleaf/turnleaf/token/KeyType;"⟩ : MethodName) (head1 (Jvm.Cond.code (⟨"com/example/turnleaf/turnleaf/token/KeyTypeOfTagPinLaw", "expected", "(I)Lcom/example/turnleaf/turnleaf/token/KeyType;"⟩ : MethodName) method_2_code 1 (some (.object "com/example/turnleaf/turnleaf/token/KeyType")) :: ws) ({ frames := 0, cells := 0, slots := 0, locals := 0 } : Room)) (fun a U => a = #[(.int (4 : Int32))] ∧ Z.Warmed39 U.vm ∧ U.heap = h0) (fun _ _ _ _ _ => True) (fun _ U o U' => ∃ v L, o = .returned v ∧ QP Z (.ref w_VAL4) h0 v U'.heap L ∧ FrameEnd U o U' L ({ frames := 0, cells := 0, slots := 0, locals := 0 } : Room).cells ({ frames := 0, cells := 0, slots := 0, locals := 0 } : Room).slots) := by
  refine MetFree.of_bodySF (plainFor_of_name pn_1) hisR ?_
  intro p e s m args below meth c s₁ Bd hml0 hP hK
  obtain ⟨rfl, hZ, hh⟩ := hP
  have CX0 := CX
  obtain ⟨hw, E_VAL0, E_VAL1, E_VAL2, E_VAL3, E_VAL4, E_VAL5, E_VAL6, E_VAL7, O_VAL0, O_VAL1, S_INTEGER, O_VAL2, O_VAL3, O_VAL4, S_DECIMAL, O_VAL5, O_VAL6, O_VAL7, S_NULL, S_SHORT, S_DOUBLE, S_LONG, S_TEXT, S_UUID, S_VAL, E_VAL, V_VAL, -⟩ := CX0
  have hx := Bd.exec
  have hby := Bd.bytes
  have hml : c.maxLocals = 1 := hml0
  have hown : s.vm.findClass "com/example/turnleaf/turnleaf/token/KeyTypeOfTagPinLaw" = some m.cls := findClass_of_methodNamed Bd.named
  have hnm := (name_of_methodNamed Bd.named Bd.method).1
  have hlk : meth.locks = false := BodyLoose.notSynchronized Bd
  have X0 : Stand p l e ({ frames := 0, cells := 0, slots := 0, locals := 0 } : Room) s m #[(.int (4 : Int32))] below meth c s₁ [] 0 0 := Stand.of_body Bd
  have e0 : s₁.heap = h0 := by rw [← hh, Bd.state]; rfl
  have N := Fr.nil Z.heap.size
  show own_Done p.tables e below (own_R (QP Z (.ref w_VAL4) h0) s 0 0) s₁ (entryFrame m #[(.int (4 : Int32))] 1)
  refine own_st (T' := s₁) (F' := (mkF m 0 #[.val (.int (4 : Int32))] [])) (fun t k => castTop (by first | rfl | (simp [entryFrame, mkF, argsToLocals, Value.category]; done)) k) ?_
  refine own_st (T' := s₁) (F' := (mkF m 1 #[.val (.int (4 : Int32))] [(.int (4 : Int32))])) (fun t k => XS.iloadN X0.here hx rfl (hb hby d3_0) rfl k) ?_
  refine own_st (T' := s₁) (F' := (mkF m 2 #[.val (.int (4 : Int32))] [(.int (1 : Int32)), (.int (4 : Int32))])) (fun t k => XS.iconst X0.here hx rfl (hb hby d3_1) k) ?_
  refine own_st (T' := s₁) (F' := (mkF m 9 #[.val (.int (4 : Int32))] [])) (fun t k => XS.icmpYes X0.here hx rfl (pc0 := 2) (pc' := 9) rfl (hb hby d3_2) rfl (feq (by decide : ¬ ((4 : Int32) = (1 : Int32)))).2 (by decide) (by decide) k) ?_
  refine own_st (T' := s₁) (F' := (mkF m 10 #[.val (.int (4 : Int32))] [(.int (4 : Int32))])) (fun t k => XS.iloadN X0.here hx rfl (hb hby d3_9) rfl k) ?_
  refine own_st (T' := s₁) (F' := (mkF m 11 #[.val (.int (4 : Int32))] [(.int (2 : Int32)), (.int (4 : Int32))])) (fun t k => XS.iconst X0.here hx rfl (hb hby d3_10) k) ?_
  refine own_st (T' := s₁) (F' := (mkF m 18 #[.val (.int (4 : Int32))] [])) (fun t k => XS.icmpYes X0.here hx rfl (pc0 := 11) (pc' := 18) rfl (hb hby d3_11) rfl (feq (by decide : ¬ ((4 : Int32) = (2 : Int32)))).2 (by decide) (by decide) k) ?_
  refine own_st (T' := s₁) (F' := (mkF m 19 #[.val (.int (4 : Int32))] [(.int (4 : Int32))])) (fun t k => XS.iloadN X0.here hx rfl (hb hby d3_18) rfl k) ?_
  refine own_st (T' := s₁) (F' := (mkF m 20 #[.val (.int (4 : Int32))] [(.int (3 : Int32)), (.int (4 : Int32))])) (fun t k => XS.iconst X0.here hx rfl (hb hby d3_19) k) ?_
  refine own_st (T' := s₁) (F' := (mkF m 27 #[.val (.int (4 : Int32))] [])) (fun t k => XS.icmpYes X0.here hx rfl (pc0 := 20) (pc' := 27) rfl (hb hby d3_20) rfl (feq (by decide : ¬ ((4 : Int32) = (3 : Int32)))).2 (by decide) (by decide) k) ?_
  refine own_st (T' := s₁) (F' := (mkF m 28 #[.val (.int (4 : Int32))] [(.int (4 : Int32))])) (fun t k => XS.iloadN X0.here hx rfl (hb hby d3_27) rfl k) ?_
  refine own_st (T' := s₁) (F' := (mkF m 29 #[.val (.int (4 : Int32))] [(.int (4 : Int32)), (.int (4 : Int32))])) (fun t k => XS.iconst X0.here hx rfl (hb hby d3_28) k) ?_
  refine own_st (T' := s₁) (F' := (mkF m 32 #[.val (.int (4 : Int32))] [])) (fun t k => XS.icmpNo X0.here hx rfl (hb hby d3_29) rfl (teq rfl).2 k) ?_
  obtain ⟨T1, X1, e1, st1⟩ := getS2 X0 hx hZ hown (host := "") (Or.inl (hw _ (List.mem_of_getElem? (i := 36) rfl))) Via.refl e0 (S_DECIMAL.ext O) (g := (mkF m 32 #[.val (.int (4 : Int32))] [])) rfl (hb hby d3_32)
  refine own_st (T' := T1) (F' := (mkF m 35 #[.val (.int (4 : Int32))] [(.ref w_VAL4)])) st1 ?_
  exact own_retA X1 hx (t := (.object "com/example/turnleaf/turnleaf/token/KeyType")) Bd.returns rfl rfl (hb hby d3_35) hlk (by show QP Z (.ref w_VAL4) h0 _ T1.heap _; rw [e1]; exact ⟨rfl, N, rfl⟩) (by decide) (by decide)
set_option maxRecDepth 65536 in
set_option maxHeartbeats 40000000 in
theorem rmO_5 (l : Launch) (Z : State) (a0 : Array Value) {w_VAL : Addr} {k_VAL : ClassId} {w_VAL0 : Addr} {w_VAL1 : Addr} {w_VAL2 : Addr} {w_VAL3 : Addr} {w_VAL4 : Addr} {w_VAL5 : Addr} {w_VAL6 : Addr} {w_VAL7 : Addr} (CX : Ctx Z a0 w_VAL k_VAL w_VAL0 w_VAL1 w_VAL2 w_VAL3 w_VAL4 w_VAL5 w_VAL6 w_VAL7) (ws : List Jvm.Cond)  (h0 : Heap) (O : Ext Z.heap h0)  :
    MetFree l (⟨"com/example/turnleaf/turnleaf/token/KeyType", "ofTag", "(I)Lcom/example/turnleaf/turnleaf/token/KeyType;"⟩ : MethodName) (head1 (Jvm.Cond.code (⟨"com/example/turnleaf/turnleaf/token/KeyType", "ofTag", "(I)Lcom/example/turnleaf/turnleaf/token/KeyType;"⟩ : MethodName) prog_36_method_8_code 5 (some (.object "com/example/turnleaf/turnleaf/token/KeyType")) :: ws) ({ frames := 2, cells := 1, slots := 8, locals := 25 } : Room)) (fun a U => a = #[(.int (5 : Int32))] ∧ Z.Warmed39 U.vm ∧ U.heap = h0) (fun _ _ _ _ _ => True) (fun _ U o U' => ∃ v L, o = .returned v ∧ QE Z (.ref w_VAL5) h0 v U'.heap L ∧ FrameEnd U o U' L ({ frames := 2, cells := 1, slots := 8, locals := 25 } : Room).cells ({ frames := 2, cells := 1, slots := 8, locals := 25 } : Room).slots) := by
  refine MetFree.of_bodySF (plainFor_of_name pn_0) hisR ?_
  intro p e s m args below meth c s₁ Bd hml0 hP hK
  obtain ⟨rfl, hZ, hh⟩ := hP
  have CX0 := CX
  obtain ⟨hw, E_VAL0, E_VAL1, E_VAL2, E_VAL3, E_VAL4, E_VAL5, E_VAL6, E_VAL7, O_VAL0, O_VAL1, S_INTEGER, O_VAL2, O_VAL3, O_VAL4, S_DECIMAL, O_VAL5, O_VAL6, O_VAL7, S_NULL, S_SHORT, S_DOUBLE, S_LONG, S_TEXT, S_UUID, S_VAL, E_VAL, V_VAL, -⟩ := CX0
  have hx := Bd.exec
  have hby := Bd.bytes
  have hml : c.maxLocals = 5 := hml0
  have hown : s.vm.findClass "com/example/turnleaf/turnleaf/token/KeyType" = some m.cls := findClass_of_methodNamed Bd.named
  have hnm := (name_of_methodNamed Bd.named Bd.method).1
  have hlk : meth.locks = false := BodyLoose.notSynchronized Bd
  have X0 : Stand p l e ({ frames := 2, cells := 1, slots := 8, locals := 25 } : Room) s m #[(.int (5 : Int32))] below meth c s₁ [] 0 0 := Stand.of_body Bd
  have e0 : s₁.heap = h0 := by rw [← hh, Bd.state]; rfl
  have N := Fr.nil Z.heap.size
  show own_Done p.tables e below (own_R (QE Z (.ref w_VAL5) h0) s 1 8) s₁ (entryFrame m #[(.int (5 : Int32))] 5)
  refine own_st (T' := s₁) (F' := (mkF m 0 #[.val (.int (5 : Int32)), .unset, .unset, .unset, .unset] [])) (fun t k => castTop (by first | rfl | (simp [entryFrame, mkF, argsToLocals, Value.category]; done)) k) ?_
  obtain ⟨v1, _, ⟨T1, L1, k1, n1⟩, -, X1, ⟨Lc1, hQ1, l1, y1, z1⟩, st1⟩ := Jvm.LawKit.callS X0 hx (y := (⟨"com/example/turnleaf/turnleaf/token/KeyType", "values", "()[Lcom/example/turnleaf/turnleaf/token/KeyType;"⟩ : MethodName)) hown (mvT hZ (hw _ (List.mem_of_getElem? (i := 4) rfl))) (mvT hZ (hw _ (List.mem_of_getElem? (i := 5) rfl))) (mvT hZ (hw _ (List.mem_of_getElem? (i := 2) rfl))) (mvT hZ (hw _ (List.mem_of_getElem? (i := 6) rfl))) (by decide) (backOf (W := 0) (rm2 l Z a0 CX [] h0 O) hZ (hw _ (List.mem_of_getElem? (i := 6) rfl)) (hw _ (List.mem_of_getElem? (i := 2) rfl)) (by decide) (by decide)) (g := (mkF m 0 #[.val (.int (5 : Int32)), .unset, .unset, .unset, .unset] [])) rfl (by rw [hml]; rfl) (argsL := []) (rest := []) (lenOf pd_0 rfl) rfl (by show 2 * 0 + _ ≤ _; exact Nat.le_of_eq rfl) (hb hby d1_0) (fun _ _ => ⟨rfl, e0, (by decide : 0 + 1 ≤ _), (by decide : 0 + 8 ≤ _)⟩)
  dsimp only [Pt.U, Pt.locs, Pt.cells, Pt.slots] at X1 l1 y1 z1 st1 hQ1
  subst l1 y1 z1
  obtain ⟨rfl, N1q, E1, V1⟩ := hQ1
  have N := Fr.app N N1q
  obtain ⟨b1, g1⟩ : ∃ z, z = h0.size := ⟨_, rfl⟩
  rw [← g1] at V1 st1
  have g_b1 : Z.heap.size ≤ b1 := Nat.le_trans O.1 (Nat.le_of_eq g1.symm)
  have O := own_ext_trans O E1
  have V_b1 := V1
  refine own_st (T' := T1) (F' := (mkF m 3 #[.val (.int (5 : Int32)), .unset, .unset, .unset, .unset] [(.ref b1)])) st1 ?_
  refine own_st (T' := T1) (F' := (mkF m 4 #[.val (.int (5 : Int32)), .val (.ref b1), .unset, .unset, .unset] [])) (fun t k => XS.astoreN X1.here hx rfl (hb hby d1_3) rfl rfl (l' := #[.val (.int (5 : Int32)), .val (.ref b1), .unset, .unset, .unset]) rfl k) ?_
  refine own_st (T' := T1) (F' := (mkF m 5 #[.val (.int (5 : Int32)), .val (.ref b1), .unset, .unset, .unset] [(.ref b1)])) (fun t k => XS.aloadN X1.here hx rfl (hb hby d1_4) rfl rfl k) ?_
  have V2 := V_b1
  obtain ⟨cl2, Ar2, qa2, Sa2, Na2, Ha2, Ga2⟩ := V2
  refine own_st (T' := T1) (F' := (mkF m 6 #[.val (.int (5 : Int32)), .val (.ref b1), .unset, .unset, .unset] [(.int (8 : Int32))])) (fun t k => X1.arraylength hx Ar2.1 (State.isArrayOf_alike hZ.alike Ar2.2.1) (g := (mkF m 5 #[.val (.int (5 : Int32)), .val (.ref b1), .unset, .unset, .unset] [(.ref b1)])) rfl rfl (hb hby d1_5) _ (by rw [(len_of Sa2 Na2)]; exact k)) ?_
  refine own_st (T' := T1) (F' := (mkF m 7 #[.val (.int (5 : Int32)), .val (.ref b1), .val (.int (8 : Int32)), .unset, .unset] [])) (fun t k => XS.istoreN X1.here hx rfl (hb hby d1_6) rfl (l' := #[.val (.int (5 : Int32)), .val (.ref b1), .val (.int (8 : Int32)), .unset, .unset]) rfl k) ?_
  refine own_st (T' := T1) (F' := (mkF m 8 #[.val (.int (5 : Int32)), .val (.ref b1), .val (.int (8 : Int32)), .unset, .unset] [(.int (0 : Int32))])) (fun t k => XS.iconst X1.here hx rfl (hb hby d1_7) k) ?_
  refine own_st (T' := T1) (F' := (mkF m 9 #[.val (.int (5 : Int32)), .val (.ref b1), .val (.int (8 : Int32)), .val (.int (0 : Int32)), .unset] [])) (fun t k => XS.istoreN X1.here hx rfl (hb hby d1_8) rfl (l' := #[.val (.int (5 : Int32)), .val (.ref b1), .val (.int (8 : Int32)), .val (.int (0 : Int32)), .unset]) rfl k) ?_
  refine own_st (T' := T1) (F' := (mkF m 10 #[.val (.int (5 : Int32)), .val (.ref b1), .val (.int (8 : Int32)), .val (.int (0 : Int32)), .unset] [(.int (0 : Int32))])) (fun t k => XS.iloadN X1.here hx rfl (hb hby d1_9) rfl k) ?_
  refine own_st (T' := T1) (F' := (mkF m 11 #[.val (.int (5 : Int32)), .val (.ref b1), .val (.int (8 : Int32)), .val (.int (0 : Int32)), .unset] [(.int (8 : Int32)), (.int (0 : Int32))])) (fun t k => XS.iloadN X1.here hx rfl (hb hby d1_10) rfl k) ?_
  refine own_st (T' := T1) (F' := (mkF m 14 #[.val (.int (5 : Int32)), .val (.ref b1), .val (.int (8 : Int32)), .val (.int (0 : Int32)), .unset] [])) (fun t k => XS.icmpNo X1.here hx rfl (hb hby d1_11) rfl (tlt (by decide : ((0 : Int32) < (8 : Int32)))).2.1 k) ?_
  refine own_st (T' := T1) (F' := (mkF m 15 #[.val (.int (5 : Int32)), .val (.ref b1), .val (.int (8 : Int32)), .val (.int (0 : Int32)), .unset] [(.ref b1)])) (fun t k => XS.aloadN X1.here hx rfl (hb hby d1_14) rfl rfl k) ?_
  refine own_st (T' := T1) (F' := (mkF m 16 #[.val (.int (5 : Int32)), .val (.ref b1), .val (.int (8 : Int32)), .val (.int (0 : Int32)), .unset] [(.int (0 : Int32)), (.ref b1)])) (fun t k => XS.iloadN X1.here hx rfl (hb hby d1_15) rfl k) ?_
  have V3 := V_b1
  obtain ⟨cl3, Ar3, qa3, Sa3, Na3, Ha3, Ga3⟩ := V3
  have hin3 : ¬ ((0 : Int32) < 0 ∨ cl3.slots.size ≤ ((0 : Int32)).toNatClampNeg) := inb_of Sa3 ⟨by decide, by decide⟩
  have hat3 : cl3.slots[((0 : Int32)).toNatClampNeg]? = some (.ref w_VAL0) := Has.at Ha3 hin3 rfl
  refine own_st (T' := T1) (F' := (mkF m 17 #[.val (.int (5 : Int32)), .val (.ref b1), .val (.int (8 : Int32)), .val (.int (0 : Int32)), .unset] [(.ref w_VAL0)])) (fun t k => X1.aaload hx (j := (0 : Int32)) (v := (.ref w_VAL0)) Ar3.1 (State.isArrayOf_alike hZ.alike Ar3.2.1) rfl Ar3.2.2 hin3 hat3 (g := (mkF m 16 #[.val (.int (5 : Int32)), .val (.ref b1), .val (.int (8 : Int32)), .val (.int (0 : Int32)), .unset] [(.int (0 : Int32)), (.ref b1)])) rfl rfl (hb hby d1_16) _ k) ?_
  refine own_st (T' := T1) (F' := (mkF m 19 #[.val (.int (5 : Int32)), .val (.ref b1), .val (.int (8 : Int32)), .val (.int (0 : Int32)), .val (.ref w_VAL0)] [])) (fun t k => XS.astore X1.here hx rfl (hb hby d1_17) rfl rfl (l' := #[.val (.int (5 : Int32)), .val (.ref b1), .val (.int (8 : Int32)), .val (.int (0 : Int32)), .val (.ref w_VAL0)]) rfl k) ?_
  refine own_st (T' := T1) (F' := (mkF m 21 #[.val (.int (5 : Int32)), .val (.ref b1), .val (.int (8 : Int32)), .val (.int (0 : Int32)), .val (.ref w_VAL0)] [(.ref w_VAL0)])) (fun t k => XS.aload X1.here hx rfl (hb hby d1_19) rfl rfl k) ?_
  obtain ⟨T4, X4, e4, st4⟩ := getF X1 hx hZ hown (host := "") (Or.inl (hw _ (List.mem_of_getElem? (i := 19) rfl))) Via.refl rfl (O_VAL0.ext O) (g := (mkF m 21 #[.val (.int (5 : Int32)), .val (.ref b1), .val (.int (8 : Int32)), .val (.int (0 : Int32)), .val (.ref w_VAL0)] [(.ref w_VAL0)])) rfl rfl (hb hby d1_21)
  refine own_st (T' := T4) (F' := (mkF m 24 #[.val (.int (5 : Int32)), .val (.ref b1), .val (.int (8 : Int32)), .val (.int (0 : Int32)), .val (.ref w_VAL0)] [(.int (8 : Int32))])) st4 ?_
  refine own_st (T' := T4) (F' := (mkF m 25 #[.val (.int (5 : Int32)), .val (.ref b1), .val (.int (8 : Int32)), .val (.int (0 : Int32)), .val (.ref w_VAL0)] [(.int (5 : Int32)), (.int (8 : Int32))])) (fun t k => XS.iloadN X4.here hx rfl (hb hby d1_24) rfl k) ?_
  refine own_st (T' := T4) (F' := (mkF m 31 #[.val (.int (5 : Int32)), .val (.ref b1), .val (.int (8 : Int32)), .val (.int (0 : Int32)), .val (.ref w_VAL0)] [])) (fun t k => XS.icmpYes X4.here hx rfl (pc0 := 25) (pc' := 31) rfl (hb hby d1_25) rfl (feq (by decide : ¬ ((8 : Int32) = (5 : Int32)))).2 (by decide) (by decide) k) ?_
  refine own_st (T' := T4) (F' := (mkF m 34 #[.val (.int (5 : Int32)), .val (.ref b1), .val (.int (8 : Int32)), .val (.int (1 : Int32)), .val (.ref w_VAL0)] [])) (fun t k => XS.iinc X4.here hx rfl (hb hby d1_31) rfl (l' := #[.val (.int (5 : Int32)), .val (.ref b1), .val (.int (8 : Int32)), .val (.int (1 : Int32)), .val (.ref w_VAL0)]) rfl k) ?_
  refine own_st (T' := T4) (F' := (mkF m 9 #[.val (.int (5 : Int32)), .val (.ref b1), .val (.int (8 : Int32)), .val (.int (1 : Int32)), .val (.ref w_VAL0)] [])) (fun t k => XS.goto X4.here hx rfl (pc0 := 34) (pc' := 9) rfl (hb hby d1_34) (by decide) (by decide) k) ?_
  refine own_st (T' := T4) (F' := (mkF m 10 #[.val (.int (5 : Int32)), .val (.ref b1), .val (.int (8 : Int32)), .val (.int (1 : Int32)), .val (.ref w_VAL0)] [(.int (1 : Int32))])) (fun t k => XS.iloadN X4.here hx rfl (hb hby d1_9) rfl k) ?_
  refine own_st (T' := T4) (F' := (mkF m 11 #[.val (.int (5 : Int32)), .val (.ref b1), .val (.int (8 : Int32)), .val (.int (1 : Int32)), .val (.ref w_VAL0)] [(.int (8 : Int32)), (.int (1 : Int32))])) (fun t k => XS.iloadN X4.here hx rfl (hb hby d1_10) rfl k) ?_
  refine own_st (T' := T4) (F' := (mkF m 14 #[.val (.int (5 : Int32)), .val (.ref b1), .val (.int (8 : Int32)), .val (.int (1 : Int32)), .val (.ref w_VAL0)] [])) (fun t k => XS.icmpNo X4.here hx rfl (hb hby d1_11) rfl (tlt (by decide : ((1 : Int32) < (8 : Int32)))).2.1 k) ?_
  refine own_st (T' := T4) (F' := (mkF m 15 #[.val (.int (5 : Int32)), .val (.ref b1), .val (.int (8 : Int32)), .val (.int (1 : Int32)), .val (.ref w_VAL0)] [(.ref b1)])) (fun t k => XS.aloadN X4.here hx rfl (hb hby d1_14) rfl rfl k) ?_
  refine own_st (T' := T4) (F' := (mkF m 16 #[.val (.int (5 : Int32)), .val (.ref b1), .val (.int (8 : Int32)), .val (.int (1 : Int32)), .val (.ref w_VAL0)] [(.int (1 : Int32)), (.ref b1)])) (fun t k => XS.iloadN X4.here hx rfl (hb hby d1_15) rfl k) ?_
  have V5 := V_b1
  obtain ⟨cl5, Ar5, qa5, Sa5, Na5, Ha5, Ga5⟩ := V5
  have hin5 : ¬ ((1 : Int32) < 0 ∨ cl5.slots.size ≤ ((1 : Int32)).toNatClampNeg) := inb_of Sa5 ⟨by decide, by decide⟩
  have hat5 : cl5.slots[((1 : Int32)).toNatClampNeg]? = some (.ref w_VAL1) := Has.at Ha5 hin5 rfl
  refine own_st (T' := T4) (F' := (mkF m 17 #[.val (.int (5 : Int32)), .val (.ref b1), .val (.int (8 : Int32)), .val (.int (1 : Int32)), .val (.ref w_VAL0)] [(.ref w_VAL1)])) (fun t k => X4.aaload hx (j := (1 : Int32)) (v := (.ref w_VAL1)) (by rw [e4]; exact Ar5.1) (State.isArrayOf_alike hZ.alike Ar5.2.1) rfl Ar5.2.2 hin5 hat5 (g := (mkF m 16 #[.val (.int (5 : Int32)), .val (.ref b1), .val (.int (8 : Int32)), .val (.int (1 : Int32)), .val (.ref w_VAL0)] [(.int (1 : Int32)), (.ref b1)])) rfl rfl (hb hby d1_16) _ k) ?_
  refine own_st (T' := T4) (F' := (mkF m 19 #[.val (.int (5 : Int32)), .val (.ref b1), .val (.int (8 : Int32)), .val (.int (1 : Int32)), .val (.ref w_VAL1)] [])) (fun t k => XS.astore X4.here hx rfl (hb hby d1_17) rfl rfl (l' := #[.val (.int (5 : Int32)), .val (.ref b1), .val (.int (8 : Int32)), .val (.int (1 : Int32)), .val (.ref w_VAL1)]) rfl k) ?_
  refine own_st (T' := T4) (F' := (mkF m 21 #[.val (.int (5 : Int32)), .val (.ref b1), .val (.int (8 : Int32)), .val (.int (1 : Int32)), .val (.ref w_VAL1)] [(.ref w_VAL1)])) (fun t k => XS.aload X4.here hx rfl (hb hby d1_19) rfl rfl k) ?_
  obtain ⟨T6, X6, e6, st6⟩ := getF X4 hx hZ hown (host := "") (Or.inl (hw _ (List.mem_of_getElem? (i := 19) rfl))) Via.refl e4 (O_VAL1.ext O) (g := (mkF m 21 #[.val (.int (5 : Int32)), .val (.ref b1), .val (.int (8 : Int32)), .val (.int (1 : Int32)), .val (.ref w_VAL1)] [(.ref w_VAL1)])) rfl rfl (hb hby d1_21)
  refine own_st (T' := T6) (F' := (mkF m 24 #[.val (.int (5 : Int32)), .val (.ref b1), .val (.int (8 : Int32)), .val (.int (1 : Int32)), .val (.ref w_VAL1)] [(.int (1 : Int32))])) st6 ?_
  refine own_st (T' := T6) (F' := (mkF m 25 #[.val (.int (5 : Int32)), .val (.ref b1), .val (.int (8 : Int32)), .val (.int (1 : Int32)), .val (.ref w_VAL1)] [(.int (5 : Int32)), (.int (1 : Int32))])) (fun t k => XS.iloadN X6.here hx rfl (hb hby d1_24) rfl k) ?_
  refine own_st (T' := T6) (F' := (mkF m 31 #[.val (.int (5 : Int32)), .val (.ref b1), .val (.int (8 : Int32)), .val (.int (1 : Int32)), .val (.ref w_VAL1)] [])) (fun t k => XS.icmpYes X6.here hx rfl (pc0 := 25) (pc' := 31) rfl (hb hby d1_25) rfl (feq (by decide : ¬ ((1 : Int32) = (5 : Int32)))).2 (by decide) (by decide) k) ?_
  refine own_st (T' := T6) (F' := (mkF m 34 #[.val (.int (5 : Int32)), .val (.ref b1), .val (.int (8 : Int32)), .val (.int (2 : Int32)), .val (.ref w_VAL1)] [])) (fun t k => XS.iinc X6.here hx rfl (hb hby d1_31) rfl (l' := #[.val (.int (5 : Int32)), .val (.ref b1), .val (.int (8 : Int32)), .val (.int (2 : Int32)), .val (.ref w_VAL1)]) rfl k) ?_
  refine own_st (T' := T6) (F' := (mkF m 9 #[.val (.int (5 : Int32)), .val (.ref b1), .val (.int (8 : Int32)), .val (.int (2 : Int32)), .val (.ref w_VAL1)] [])) (fun t k => XS.goto X6.here hx rfl (pc0 := 34) (pc' := 9) rfl (hb hby d1_34) (by decide) (by decide) k) ?_
  refine own_st (T' := T6) (F' := (mkF m 10 #[.val (.int (5 : Int32)), .val (.ref b1), .val (.int (8 : Int32)), .val (.int (2 : Int32)), .val (.ref w_VAL1)] [(.int (2 : Int32))])) (fun t k => XS.iloadN X6.here hx rfl (hb hby d1_9) rfl k) ?_
  refine own_st (T' := T6) (F' := (mkF m 11 #[.val (.int (5 : Int32)), .val (.ref b1), .val (.int (8 : Int32)), .val (.int (2 : Int32)), .val (.ref w_VAL1)] [(.int (8 : Int32)), (.int (2 : Int32))])) (fun t k => XS.iloadN X6.here hx rfl (hb hby d1_10) rfl k) ?_
  refine own_st (T' := T6) (F' := (mkF m 14 #[.val (.int (5 : Int32)), .val (.ref b1), .val (.int (8 : Int32)), .val (.int (2 : Int32)), .val (.ref w_VAL1)] [])) (fun t k => XS.icmpNo X6.here hx rfl (hb hby d1_11) rfl (tlt (by decide : ((2 : Int32) < (8 : Int32)))).2.1 k) ?_
  refine own_st (T' := T6) (F' := (mkF m 15 #[.val (.int (5 : Int32)), .val (.ref b1), .val (.int (8 : Int32)), .val (.int (2 : Int32)), .val (.ref w_VAL1)] [(.ref b1)])) (fun t k => XS.aloadN X6.here hx rfl (hb hby d1_14) rfl rfl k) ?_
  refine own_st (T' := T6) (F' := (mkF m 16 #[.val (.int (5 : Int32)), .val (.ref b1), .val (.int (8 : Int32)), .val (.int (2 : Int32)), .val (.ref w_VAL1)] [(.int (2 : Int32)), (.ref b1)])) (fun t k => XS.iloadN X6.here hx rfl (hb hby d1_15) rfl k) ?_
  have V7 := V_b1
  obtain ⟨cl7, Ar7, qa7, Sa7, Na7, Ha7, Ga7⟩ := V7
  have hin7 : ¬ ((2 : Int32) < 0 ∨ cl7.slots.size ≤ ((2 : Int32)).toNatClampNeg) := inb_of Sa7 ⟨by decide, by decide⟩
  have hat7 : cl7.slots[((2 : Int32)).toNatClampNeg]? = some (.ref w_VAL2) := Has.at Ha7 hin7 rfl
  refine own_st (T' := T6) (F' := (mkF m 17 #[.val (.int (5 : Int32)), .val (.ref b1), .val (.int (8 : Int32)), .val (.int (2 : Int32)), .val (.ref w_VAL1)] [(.ref w_VAL2)])) (fun t k => X6.aaload hx (j := (2 : Int32)) (v := (.ref w_VAL2)) (by rw [e6]; exact Ar7.1) (State.isArrayOf_alike hZ.alike Ar7.2.1) rfl Ar7.2.2 hin7 hat7 (g := (mkF m 16 #[.val (.int (5 : Int32)), .val (.ref b1), .val (.int (8 : Int32)), .val (.int (2 : Int32)), .val (.ref w_VAL1)] [(.int (2 : Int32)), (.ref b1)])) rfl rfl (hb hby d1_16) _ k) ?_
  refine own_st (T' := T6) (F' := (mkF m 19 #[.val (.int (5 : Int32)), .val (.ref b1), .val (.int (8 : Int32)), .val (.int (2 : Int32)), .val (.ref w_VAL2)] [])) (fun t k => XS.astore X6.here hx rfl (hb hby d1_17) rfl rfl (l' := #[.val (.int (5 : Int32)), .val (.ref b1), .val (.int (8 : Int32)), .val (.int (2 : Int32)), .val (.ref w_VAL2)]) rfl k) ?_
  refine own_st (T' := T6) (F' := (mkF m 21 #[.val (.int (5 : Int32)), .val (.ref b1), .val (.int (8 : Int32)), .val (.int (2 : Int32)), .val (.ref w_VAL2)] [(.ref w_VAL2)])) (fun t k => XS.aload X6.here hx rfl (hb hby d1_19) rfl rfl k) ?_
  obtain ⟨T8, X8, e8, st8⟩ := getF X6 hx hZ hown (host := "") (Or.inl (hw _ (List.mem_of_getElem? (i := 19) rfl))) Via.refl e6 (O_VAL2.ext O) (g := (mkF m 21 #[.val (.int (5 : Int32)), .val (.ref b1), .val (.int (8 : Int32)), .val (.int (2 : Int32)), .val (.ref w_VAL2)] [(.ref w_VAL2)])) rfl rfl (hb hby d1_21)
  refine own_st (T' := T8) (F' := (mkF m 24 #[.val (.int (5 : Int32)), .val (.ref b1), .val (.int (8 : Int32)), .val (.int (2 : Int32)), .val (.ref w_VAL2)] [(.int (2 : Int32))])) st8 ?_
  refine own_st (T' := T8) (F' := (mkF m 25 #[.val (.int (5 : Int32)), .val (.ref b1), .val (.int (8 : Int32)), .val (.int (2 : Int32)), .val (.ref w_VAL2)] [(.int (5 : Int32)), (.int (2 : Int32))])) (fun t k => XS.iloadN X8.here hx rfl (hb hby d1_24) rfl k) ?_
  refine own_st (T' := T8) (F' := (mkF m 31 #[.val (.int (5 : Int32)), .val (.ref b1), .val (.int (8 : Int32)), .val (.int (2 : Int32)), .val (.ref w_VAL2)] [])) (fun t k => XS.icmpYes X8.here hx rfl (pc0 := 25) (pc' := 31) rfl (hb hby d1_25) rfl (feq (by decide : ¬ ((2 : Int32) = (5 : Int32)))).2 (by decide) (by decide) k) ?_
  refine own_st (T' := T8) (F' := (mkF m 34 #[.val (.int (5 : Int32)), .val (.ref b1), .val (.int (8 : Int32)), .val (.int (3 : Int32)), .val (.ref w_VAL2)] [])) (fun t k => XS.iinc X8.here hx rfl (hb hby d1_31) rfl (l' := #[.val (.int (5 : Int32)), .val (.ref b1), .val (.int (8 : Int32)), .val (.int (3 : Int32)), .val (.ref w_VAL2)]) rfl k) ?_
  refine own_st (T' := T8) (F' := (mkF m 9 #[.val (.int (5 : Int32)), .val (.ref b1), .val (.int (8 : Int32)), .val (.int (3 : Int32)), .val (.ref w_VAL2)] [])) (fun t k => XS.goto X8.here hx rfl (pc0 := 34) (pc' := 9) rfl (hb hby d1_34) (by decide) (by decide) k) ?_
  refine own_st (T' := T8) (F' := (mkF m 10 #[.val (.int (5 : Int32)), .val (.ref b1), .val (.int (8 : Int32)), .val (.int (3 : Int32)), .val (.ref w_VAL2)] [(.int (3 : Int32))])) (fun t k => XS.iloadN X8.here hx rfl (hb hby d1_9) rfl k) ?_
  refine own_st (T' := T8) (F' := (mkF m 11 #[.val (.int (5 : Int32)), .val (.ref b1), .val (.int (8 : Int32)), .val (.int (3 : Int32)), .val (.ref w_VAL2)] [(.int (8 : Int32)), (.int (3 : Int32))])) (fun t k => XS.iloadN X8.here hx rfl (hb hby d1_10) rfl k) ?_
  refine own_st (T' := T8) (F' := (mkF m 14 #[.val (.int (5 : Int32)), .val (.ref b1), .val (.int (8 : Int32)), .val (.int (3 : Int32)), .val (.ref w_VAL2)] [])) (fun t k => XS.icmpNo X8.here hx rfl (hb hby d1_11) rfl (tlt (by decide : ((3 : Int32) < (8 : Int32)))).2.1 k) ?_
  refine own_st (T' := T8) (F' := (mkF m 15 #[.val (.int (5 : Int32)), .val (.ref b1), .val (.int (8 : Int32)), .val (.int (3 : Int32)), .val (.ref w_VAL2)] [(.ref b1)])) (fun t k => XS.aloadN X8.here hx rfl (hb hby d1_14) rfl rfl k) ?_
  refine own_st (T' := T8) (F' := (mkF m 16 #[.val (.int (5 : Int32)), .val (.ref b1), .val (.int (8 : Int32)), .val (.int (3 : Int32)), .val (.ref w_VAL2)] [(.int (3 : Int32)), (.ref b1)])) (fun t k => XS.iloadN X8.here hx rfl (hb hby d1_15) rfl k) ?_
  have V9 := V_b1
  obtain ⟨cl9, Ar9, qa9, Sa9, Na9, Ha9, Ga9⟩ := V9
  have hin9 : ¬ ((3 : Int32) < 0 ∨ cl9.slots.size ≤ ((3 : Int32)).toNatClampNeg) := inb_of Sa9 ⟨by decide, by decide⟩
  have hat9 : cl9.slots[((3 : Int32)).toNatClampNeg]? = some (.ref w_VAL3) := Has.at Ha9 hin9 rfl
  refine own_st (T' := T8) (F' := (mkF m 17 #[.val (.int (5 : Int32)), .val (.ref b1), .val (.int (8 : Int32)), .val (.int (3 : Int32)), .val (.ref w_VAL2)] [(.ref w_VAL3)])) (fun t k => X8.aaload hx (j := (3 : Int32)) (v := (.ref w_VAL3)) (by rw [e8]; exact Ar9.1) (State.isArrayOf_alike hZ.alike Ar9.2.1) rfl Ar9.2.2 hin9 hat9 (g := (mkF m 16 #[.val (.int (5 : Int32)), .val (.ref b1), .val (.int (8 : Int32)), .val (.int (3 : Int32)), .val (.ref w_VAL2)] [(.int (3 : Int32)), (.ref b1)])) rfl rfl (hb hby d1_16) _ k) ?_
  refine own_st (T' := T8) (F' := (mkF m 19 #[.val (.int (5 : Int32)), .val (.ref b1), .val (.int (8 : Int32)), .val (.int (3 : Int32)), .val (.ref w_VAL3)] [])) (fun t k => XS.astore X8.here hx rfl (hb hby d1_17) rfl rfl (l' := #[.val (.int (5 : Int32)), .val (.ref b1), .val (.int (8 : Int32)), .val (.int (3 : Int32)), .val (.ref w_VAL3)]) rfl k) ?_
  refine own_st (T' := T8) (F' := (mkF m 21 #[.val (.int (5 : Int32)), .val (.ref b1), .val (.int (8 : Int32)), .val (.int (3 : Int32)), .val (.ref w_VAL3)] [(.ref w_VAL3)])) (fun t k => XS.aload X8.here hx rfl (hb hby d1_19) rfl rfl k) ?_
  obtain ⟨T10, X10, e10, st10⟩ := getF X8 hx hZ hown (host := "") (Or.inl (hw _ (List.mem_of_getElem? (i := 19) rfl))) Via.refl e8 (O_VAL3.ext O) (g := (mkF m 21 #[.val (.int (5 : Int32)), .val (.ref b1), .val (.int (8 : Int32)), .val (.int (3 : Int32)), .val (.ref w_VAL3)] [(.ref w_VAL3)])) rfl rfl (hb hby d1_21)
  refine own_st (T' := T10) (F' := (mkF m 24 #[.val (.int (5 : Int32)), .val (.ref b1), .val (.int (8 : Int32)), .val (.int (3 : Int32)), .val (.ref w_VAL3)] [(.int (3 : Int32))])) st10 ?_
  refine own_st (T' := T10) (F' := (mkF m 25 #[.val (.int (5 : Int32)), .val (.ref b1), .val (.int (8 : Int32)), .val (.int (3 : Int32)), .val (.ref w_VAL3)] [(.int (5 : Int32)), (.int (3 : Int32))])) (fun t k => XS.iloadN X10.here hx rfl (hb hby d1_24) rfl k) ?_
  refine own_st (T' := T10) (F' := (mkF m 31 #[.val (.int (5 : Int32)), .val (.ref b1), .val (.int (8 : Int32)), .val (.int (3 : Int32)), .val (.ref w_VAL3)] [])) (fun t k => XS.icmpYes X10.here hx rfl (pc0 := 25) (pc' := 31) rfl (hb hby d1_25) rfl (feq (by decide : ¬ ((3 : Int32) = (5 : Int32)))).2 (by decide) (by decide) k) ?_
  refine own_st (T' := T10) (F' := (mkF m 34 #[.val (.int (5 : Int32)), .val (.ref b1), .val (.int (8 : Int32)), .val (.int (4 : Int32)), .val (.ref w_VAL3)] [])) (fun t k => XS.iinc X10.here hx rfl (hb hby d1_31) rfl (l' := #[.val (.int (5 : Int32)), .val (.ref b1), .val (.int (8 : Int32)), .val (.int (4 : Int32)), .val (.ref w_VAL3)]) rfl k) ?_
  refine own_st (T' := T10) (F' := (mkF m 9 #[.val (.int (5 : Int32)), .val (.ref b1), .val (.int (8 : Int32)), .val (.int (4 : Int32)), .val (.ref w_VAL3)] [])) (fun t k => XS.goto X10.here hx rfl (pc0 := 34) (pc' := 9) rfl (hb hby d1_34) (by decide) (by decide) k) ?_
  refine own_st (T' := T10) (F' := (mkF m 10 #[.val (.int (5 : Int32)), .val (.ref b1), .val (.int (8 : Int32)), .val (.int (4 : Int32)), .val (.ref w_VAL3)] [(.int (4 : Int32))])) (fun t k => XS.iloadN X10.here hx rfl (hb hby d1_9) rfl k) ?_
  refine own_st (T' := T10) (F' := (mkF m 11 #[.val (.int (5 : Int32)), .val (.ref b1), .val (.int (8 : Int32)), .val (.int (4 : Int32)), .val (.ref w_VAL3)] [(.int (8 : Int32)), (.int (4 : Int32))])) (fun t k => XS.iloadN X10.here hx rfl (hb hby d1_10) rfl k) ?_
  refine own_st (T' := T10) (F' := (mkF m 14 #[.val (.int (5 : Int32)), .val (.ref b1), .val (.int (8 : Int32)), .val (.int (4 : Int32)), .val (.ref w_VAL3)] [])) (fun t k => XS.icmpNo X10.here hx rfl (hb hby d1_11) rfl (tlt (by decide : ((4 : Int32) < (8 : Int32)))).2.1 k) ?_
  refine own_st (T' := T10) (F' := (mkF m 15 #[.val (.int (5 : Int32)), .val (.ref b1), .val (.int (8 : Int32)), .val (.int (4 : Int32)), .val (.ref w_VAL3)] [(.ref b1)])) (fun t k => XS.aloadN X10.here hx rfl (hb hby d1_14) rfl rfl k) ?_
  refine own_st (T' := T10) (F' := (mkF m 16 #[.val (.int (5 : Int32)), .val (.ref b1), .val (.int (8 : Int32)), .val (.int (4 : Int32)), .val (.ref w_VAL3)] [(.int (4 : Int32)), (.ref b1)])) (fun t k => XS.iloadN X10.here hx rfl (hb hby d1_15) rfl k) ?_
  have V11 := V_b1
  obtain ⟨cl11, Ar11, qa11, Sa11, Na11, Ha11, Ga11⟩ := V11
  have hin11 : ¬ ((4 : Int32) < 0 ∨ cl11.slots.size ≤ ((4 : Int32)).toNatClampNeg) := inb_of Sa11 ⟨by decide, by decide⟩
  have hat11 : cl11.slots[((4 : Int32)).toNatClampNeg]? = some (.ref w_VAL4) := Has.at Ha11 hin11 rfl
  refine own_st (T' := T10) (F' := (mkF m 17 #[.val (.int (5 : Int32)), .val (.ref b1), .val (.int (8 : Int32)), .val (.int (4 : Int32)), .val (.ref w_VAL3)] [(.ref w_VAL4)])) (fun t k => X10.aaload hx (j := (4 : Int32)) (v := (.ref w_VAL4)) (by rw [e10]; exact Ar11.1) (State.isArrayOf_alike hZ.alike Ar11.2.1) rfl Ar11.2.2 hin11 hat11 (g := (mkF m 16 #[.val (.int (5 : Int32)), .val (.ref b1), .val (.int (8 : Int32)), .val (.int (4 : Int32)), .val (.ref w_VAL3)] [(.int (4 : Int32)), (.ref b1)])) rfl rfl (hb hby d1_16) _ k) ?_
  refine own_st (T' := T10) (F' := (mkF m 19 #[.val (.int (5 : Int32)), .val (.ref b1), .val (.int (8 : Int32)), .val (.int (4 : Int32)), .val (.ref w_VAL4)] [])) (fun t k => XS.astore X10.here hx rfl (hb hby d1_17) rfl rfl (l' := #[.val (.int (5 : Int32)), .val (.ref b1), .val (.int (8 : Int32)), .val (.int (4 : Int32)), .val (.ref w_VAL4)]) rfl k) ?_
  refine own_st (T' := T10) (F' := (mkF m 21 #[.val (.int (5 : Int32)), .val (.ref b1), .val (.int (8 : Int32)), .val (.int (4 : Int32)), .val (.ref w_VAL4)] [(.ref w_VAL4)])) (fun t k => XS.aload X10.here hx rfl (hb hby d1_19) rfl rfl k) ?_
  obtain ⟨T12, X12, e12, st12⟩ := getF X10 hx hZ hown (host := "") (Or.inl (hw _ (List.mem_of_getElem? (i := 19) rfl))) Via.refl e10 (O_VAL4.ext O) (g := (mkF m 21 #[.val (.int (5 : Int32)), .val (.ref b1), .val (.int (8 : Int32)), .val (.int (4 : Int32)), .val (.ref w_VAL4)] [(.ref w_VAL4)])) rfl rfl (hb hby d1_21)
  refine own_st (T' := T12) (F' := (mkF m 24 #[.val (.int (5 : Int32)), .val (.ref b1), .val (.int (8 : Int32)), .val (.int (4 : Int32)), .val (.ref w_VAL4)] [(.int (4 : Int32))])) st12 ?_
  refine own_st (T' := T12) (F' := (mkF m 25 #[.val (.int (5 : Int32)), .val (.ref b1), .val (.int (8 : Int32)), .val (.int (4 : Int32)), .val (.ref w_VAL4)] [(.int (5 : Int32)), (.int (4 : Int32))])) (fun t k => XS.iloadN X12.here hx rfl (hb hby d1_24) rfl k) ?_
  refine own_st (T' := T12) (F' := (mkF m 31 #[.val (.int (5 : Int32)), .val (.ref b1), .val (.int (8 : Int32)), .val (.int (4 : Int32)), .val (.ref w_VAL4)] [])) (fun t k => XS.icmpYes X12.here hx rfl (pc0 := 25) (pc' := 31) rfl (hb hby d1_25) rfl (feq (by decide : ¬ ((4 : Int32) = (5 : Int32)))).2 (by decide) (by decide) k) ?_
  refine own_st (T' := T12) (F' := (mkF m 34 #[.val (.int (5 : Int32)), .val (.ref b1), .val (.int (8 : Int32)), .val (.int (5 : Int32)), .val (.ref w_VAL4)] [])) (fun t k => XS.iinc X12.here hx rfl (hb hby d1_31) rfl (l' := #[.val (.int (5 : Int32)), .val (.ref b1), .val (.int (8 : Int32)), .val (.int (5 : Int32)), .val (.ref w_VAL4)]) rfl k) ?_
  refine own_st (T' := T12) (F' := (mkF m 9 #[.val (.int (5 : Int32)), .val (.ref b1), .val (.int (8 : Int32)), .val (.int (5 : Int32)), .val (.ref w_VAL4)] [])) (fun t k => XS.goto X12.here hx rfl (pc0 := 34) (pc' := 9) rfl (hb hby d1_34) (by decide) (by decide) k) ?_
  refine own_st (T' := T12) (F' := (mkF m 10 #[.val (.int (5 : Int32)), .val (.ref b1), .val (.int (8 : Int32)), .val (.int (5 : Int32)), .val (.ref w_VAL4)] [(.int (5 : Int32))])) (fun t k => XS.iloadN X12.here hx rfl (hb hby d1_9) rfl k) ?_
  refine own_st (T' := T12) (F' := (mkF m 11 #[.val (.int (5 : Int32)), .val (.ref b1), .val (.int (8 : Int32)), .val (.int (5 : Int32)), .val (.ref w_VAL4)] [(.int (8 : Int32)), (.int (5 : Int32))])) (fun t k => XS.iloadN X12.here hx rfl (hb hby d1_10) rfl k) ?_
  refine own_st (T' := T12) (F' := (mkF m 14 #[.val (.int (5 : Int32)), .val (.ref b1), .val (.int (8 : Int32)), .val (.int (5 : Int32)), .val (.ref w_VAL4)] [])) (fun t k => XS.icmpNo X12.here hx rfl (hb hby d1_11) rfl (tlt (by decide : ((5 : Int32) < (8 : Int32)))).2.1 k) ?_
  refine own_st (T' := T12) (F' := (mkF m 15 #[.val (.int (5 : Int32)), .val (.ref b1), .val (.int (8 : Int32)), .val (.int (5 : Int32)), .val (.ref w_VAL4)] [(.ref b1)])) (fun t k => XS.aloadN X12.here hx rfl (hb hby d1_14) rfl rfl k) ?_
  refine own_st (T' := T12) (F' := (mkF m 16 #[.val (.int (5 : Int32)), .val (.ref b1), .val (.int (8 : Int32)), .val (.int (5 : Int32)), .val (.ref w_VAL4)] [(.int (5 : Int32)), (.ref b1)])) (fun t k => XS.iloadN X12.here hx rfl (hb hby d1_15) rfl k) ?_
  have V13 := V_b1
  obtain ⟨cl13, Ar13, qa13, Sa13, Na13, Ha13, Ga13⟩ := V13
  have hin13 : ¬ ((5 : Int32) < 0 ∨ cl13.slots.size ≤ ((5 : Int32)).toNatClampNeg) := inb_of Sa13 ⟨by decide, by decide⟩
  have hat13 : cl13.slots[((5 : Int32)).toNatClampNeg]? = some (.ref w_VAL5) := Has.at Ha13 hin13 rfl
  refine own_st (T' := T12) (F' := (mkF m 17 #[.val (.int (5 : Int32)), .val (.ref b1), .val (.int (8 : Int32)), .val (.int (5 : Int32)), .val (.ref w_VAL4)] [(.ref w_VAL5)])) (fun t k => X12.aaload hx (j := (5 : Int32)) (v := (.ref w_VAL5)) (by rw [e12]; exact Ar13.1) (State.isArrayOf_alike hZ.alike Ar13.2.1) rfl Ar13.2.2 hin13 hat13 (g := (mkF m 16 #[.val (.int (5 : Int32)), .val (.ref b1), .val (.int (8 : Int32)), .val (.int (5 : Int32)), .val (.ref w_VAL4)] [(.int (5 : Int32)), (.ref b1)])) rfl rfl (hb hby d1_16) _ k) ?_
  refine own_st (T' := T12) (F' := (mkF m 19 #[.val (.int (5 : Int32)), .val (.ref b1), .val (.int (8 : Int32)), .val (.int (5 : Int32)), .val (.ref w_VAL5)] [])) (fun t k => XS.astore X12.here hx rfl (hb hby d1_17) rfl rfl (l' := #[.val (.int (5 : Int32)), .val (.ref b1), .val (.int (8 : Int32)), .val (.int (5 : Int32)), .val (.ref w_VAL5)]) rfl k) ?_
  refine own_st (T' := T12) (F' := (mkF m 21 #[.val (.int (5 : Int32)), .val (.ref b1), .val (.int (8 : Int32)), .val (.int (5 : Int32)), .val (.ref w_VAL5)] [(.ref w_VAL5)])) (fun t k => XS.aload X12.here hx rfl (hb hby d1_19) rfl rfl k) ?_
  obtain ⟨T14, X14, e14, st14⟩ := getF X12 hx hZ hown (host := "") (Or.inl (hw _ (List.mem_of_getElem? (i := 19) rfl))) Via.refl e12 (O_VAL5.ext O) (g := (mkF m 21 #[.val (.int (5 : Int32)), .val (.ref b1), .val (.int (8 : Int32)), .val (.int (5 : Int32)), .val (.ref w_VAL5)] [(.ref w_VAL5)])) rfl rfl (hb hby d1_21)
  refine own_st (T' := T14) (F' := (mkF m 24 #[.val (.int (5 : Int32)), .val (.ref b1), .val (.int (8 : Int32)), .val (.int (5 : Int32)), .val (.ref w_VAL5)] [(.int (5 : Int32))])) st14 ?_
  refine own_st (T' := T14) (F' := (mkF m 25 #[.val (.int (5 : Int32)), .val (.ref b1), .val (.int (8 : Int32)), .val (.int (5 : Int32)), .val (.ref w_VAL5)] [(.int (5 : Int32)), (.int (5 : Int32))])) (fun t k => XS.iloadN X14.here hx rfl (hb hby d1_24) rfl k) ?_
  refine own_st (T' := T14) (F' := (mkF m 28 #[.val (.int (5 : Int32)), .val (.ref b1), .val (.int (8 : Int32)), .val (.int (5 : Int32)), .val (.ref w_VAL5)] [])) (fun t k => XS.icmpNo X14.here hx rfl (hb hby d1_25) rfl (teq rfl).2 k) ?_
  refine own_st (T' := T14) (F' := (mkF m 30 #[.val (.int (5 : Int32)), .val (.ref b1), .val (.int (8 : Int32)), .val (.int (5 : Int32)), .val (.ref w_VAL5)] [(.ref w_VAL5)])) (fun t k => XS.aload X14.here hx rfl (hb hby d1_28) rfl rfl k) ?_
  exact own_retA X14 hx (t := (.object "com/example/turnleaf/turnleaf/token/KeyType")) Bd.returns rfl rfl (hb hby d1_30) hlk (by show QE Z (.ref w_VAL5) h0 _ T14.heap _; rw [e14]; exact ⟨rfl, N, E1⟩) (by decide) (by decide)
set_option maxRecDepth 65536 in
set_option maxHeartbeats 40000000 in
theorem rmX_5 (l : Launch) (Z : State) (a0 : Array Value) {w_VAL : Addr} {k_VAL : ClassId} {w_VAL0 : Addr} {w_VAL1 : Addr} {w_VAL2 : Addr} {w_VAL3 : Addr} {w_VAL4 : Addr} {w_VAL5 : Addr} {w_VAL6 : Addr} {w_VAL7 : Addr} (CX : Ctx Z a0 w_VAL k_VAL w_VAL0 w_VAL1 w_VAL2 w_VAL3 w_VAL4 w_VAL5 w_VAL6 w_VAL7) (ws : List Jvm.Cond)  (h0 : Heap) (O : Ext Z.heap h0)  :
    MetFree l (⟨"com/example/turnleaf/turnleaf/token/KeyTypeOfTagPinLaw", "expected", "(I)Lcom/example/turnleaf/turnleaf/token/KeyType;"⟩ : MethodName) (head1 (Jvm.Cond.code (⟨"com/example/turnleaf/turnleaf/token/KeyTypeOfTagPinLaw", "expected", "(I)Lcom/example/turnleaf/turnleaf/token/KeyType;"⟩ : MethodName) method_2_code 1 (some (.object "com/example/turnleaf/turnleaf/token/KeyType")) :: ws) ({ frames := 0, cells := 0, slots := 0, locals := 0 } : Room)) (fun a U => a = #[(.int (5 : Int32))] ∧ Z.Warmed39 U.vm ∧ U.heap = h0) (fun _ _ _ _ _ => True) (fun _ U o U' => ∃ v L, o = .returned v ∧ QP Z (.ref w_VAL5) h0 v U'.heap L ∧ FrameEnd U o U' L ({ frames := 0, cells := 0, slots := 0, locals := 0 } : Room).cells ({ frames := 0, cells := 0, slots := 0, locals := 0 } : Room).slots) := by
  refine MetFree.of_bodySF (plainFor_of_name pn_1) hisR ?_
  intro p e s m args below meth c s₁ Bd hml0 hP hK
  obtain ⟨rfl, hZ, hh⟩ := hP
  have CX0 := CX
  obtain ⟨hw, E_VAL0, E_VAL1, E_VAL2, E_VAL3, E_VAL4, E_VAL5, E_VAL6, E_VAL7, O_VAL0, O_VAL1, S_INTEGER, O_VAL2, O_VAL3, O_VAL4, S_DECIMAL, O_VAL5, O_VAL6, O_VAL7, S_NULL, S_SHORT, S_DOUBLE, S_LONG, S_TEXT, S_UUID, S_VAL, E_VAL, V_VAL, -⟩ := CX0
  have hx := Bd.exec
  have hby := Bd.bytes
  have hml : c.maxLocals = 1 := hml0
  have hown : s.vm.findClass "com/example/turnleaf/turnleaf/token/KeyTypeOfTagPinLaw" = some m.cls := findClass_of_methodNamed Bd.named
  have hnm := (name_of_methodNamed Bd.named Bd.method).1
  have hlk : meth.locks = false := BodyLoose.notSynchronized Bd
  have X0 : Stand p l e ({ frames := 0, cells := 0, slots := 0, locals := 0 } : Room) s m #[(.int (5 : Int32))] below meth c s₁ [] 0 0 := Stand.of_body Bd
  have e0 : s₁.heap = h0 := by rw [← hh, Bd.state]; rfl
  have N := Fr.nil Z.heap.size
  show own_Done p.tables e below (own_R (QP Z (.ref w_VAL5) h0) s 0 0) s₁ (entryFrame m #[(.int (5 : Int32))] 1)
  refine own_st (T' := s₁) (F' := (mkF m 0 #[.val (.int (5 : Int32))] [])) (fun t k => castTop (by first | rfl | (simp [entryFrame, mkF, argsToLocals, Value.category]; done)) k) ?_
  refine own_st (T' := s₁) (F' := (mkF m 1 #[.val (.int (5 : Int32))] [(.int (5 : Int32))])) (fun t k => XS.iloadN X0.here hx rfl (hb hby d3_0) rfl k) ?_
  refine own_st (T' := s₁) (F' := (mkF m 2 #[.val (.int (5 : Int32))] [(.int (1 : Int32)), (.int (5 : Int32))])) (fun t k => XS.iconst X0.here hx rfl (hb hby d3_1) k) ?_
  refine own_st (T' := s₁) (F' := (mkF m 9 #[.val (.int (5 : Int32))] [])) (fun t k => XS.icmpYes X0.here hx rfl (pc0 := 2) (pc' := 9) rfl (hb hby d3_2) rfl (feq (by decide : ¬ ((5 : Int32) = (1 : Int32)))).2 (by decide) (by decide) k) ?_
  refine own_st (T' := s₁) (F' := (mkF m 10 #[.val (.int (5 : Int32))] [(.int (5 : Int32))])) (fun t k => XS.iloadN X0.here hx rfl (hb hby d3_9) rfl k) ?_
  refine own_st (T' := s₁) (F' := (mkF m 11 #[.val (.int (5 : Int32))] [(.int (2 : Int32)), (.int (5 : Int32))])) (fun t k => XS.iconst X0.here hx rfl (hb hby d3_10) k) ?_
  refine own_st (T' := s₁) (F' := (mkF m 18 #[.val (.int (5 : Int32))] [])) (fun t k => XS.icmpYes X0.here hx rfl (pc0 := 11) (pc' := 18) rfl (hb hby d3_11) rfl (feq (by decide : ¬ ((5 : Int32) = (2 : Int32)))).2 (by decide) (by decide) k) ?_
  refine own_st (T' := s₁) (F' := (mkF m 19 #[.val (.int (5 : Int32))] [(.int (5 : Int32))])) (fun t k => XS.iloadN X0.here hx rfl (hb hby d3_18) rfl k) ?_
  refine own_st (T' := s₁) (F' := (mkF m 20 #[.val (.int (5 : Int32))] [(.int (3 : Int32)), (.int (5 : Int32))])) (fun t k => XS.iconst X0.here hx rfl (hb hby d3_19) k) ?_
  refine own_st (T' := s₁) (F' := (mkF m 27 #[.val (.int (5 : Int32))] [])) (fun t k => XS.icmpYes X0.here hx rfl (pc0 := 20) (pc' := 27) rfl (hb hby d3_20) rfl (feq (by decide : ¬ ((5 : Int32) = (3 : Int32)))).2 (by decide) (by decide) k) ?_
  refine own_st (T' := s₁) (F' := (mkF m 28 #[.val (.int (5 : Int32))] [(.int (5 : Int32))])) (fun t k => XS.iloadN X0.here hx rfl (hb hby d3_27) rfl k) ?_
  refine own_st (T' := s₁) (F' := (mkF m 29 #[.val (.int (5 : Int32))] [(.int (4 : Int32)), (.int (5 : Int32))])) (fun t k => XS.iconst X0.here hx rfl (hb hby d3_28) k) ?_
  refine own_st (T' := s₁) (F' := (mkF m 36 #[.val (.int (5 : Int32))] [])) (fun t k => XS.icmpYes X0.here hx rfl (pc0 := 29) (pc' := 36) rfl (hb hby d3_29) rfl (feq (by decide : ¬ ((5 : Int32) = (4 : Int32)))).2 (by decide) (by decide) k) ?_
  refine own_st (T' := s₁) (F' := (mkF m 37 #[.val (.int (5 : Int32))] [(.int (5 : Int32))])) (fun t k => XS.iloadN X0.here hx rfl (hb hby d3_36) rfl k) ?_
  refine own_st (T' := s₁) (F' := (mkF m 38 #[.val (.int (5 : Int32))] [(.int (5 : Int32)), (.int (5 : Int32))])) (fun t k => XS.iconst X0.here hx rfl (hb hby d3_37) k) ?_
  refine own_st (T' := s₁) (F' := (mkF m 41 #[.val (.int (5 : Int32))] [])) (fun t k => XS.icmpNo X0.here hx rfl (hb hby d3_38) rfl (teq rfl).2 k) ?_
  obtain ⟨T1, X1, e1, st1⟩ := getS2 X0 hx hZ hown (host := "") (Or.inl (hw _ (List.mem_of_getElem? (i := 54) rfl))) Via.refl e0 (S_TEXT.ext O) (g := (mkF m 41 #[.val (.int (5 : Int32))] [])) rfl (hb hby d3_41)
  refine own_st (T' := T1) (F' := (mkF m 44 #[.val (.int (5 : Int32))] [(.ref w_VAL5)])) st1 ?_
  exact own_retA X1 hx (t := (.object "com/example/turnleaf/turnleaf/token/KeyType")) Bd.returns rfl rfl (hb hby d3_44) hlk (by show QP Z (.ref w_VAL5) h0 _ T1.heap _; rw [e1]; exact ⟨rfl, N, rfl⟩) (by decide) (by decide)
set_option maxRecDepth 65536 in
set_option maxHeartbeats 40000000 in
theorem rmO_6 (l : Launch) (Z : State) (a0 : Array Value) {w_VAL : Addr} {k_VAL : ClassId} {w_VAL0 : Addr} {w_VAL1 : Addr} {w_VAL2 : Addr} {w_VAL3 : Addr} {w_VAL4 : Addr} {w_VAL5 : Addr} {w_VAL6 : Addr} {w_VAL7 : Addr} (CX : Ctx Z a0 w_VAL k_VAL w_VAL0 w_VAL1 w_VAL2 w_VAL3 w_VAL4 w_VAL5 w_VAL6 w_VAL7) (ws : List Jvm.Cond)  (h0 : Heap) (O : Ext Z.heap h0)  :
    MetFree l (⟨"com/example/turnleaf/turnleaf/token/KeyType", "ofTag", "(I)Lcom/example/turnleaf/turnleaf/token/KeyType;"⟩ : MethodName) (head1 (Jvm.Cond.code (⟨"com/example/turnleaf/turnleaf/token/KeyType", "ofTag", "(I)Lcom/example/turnleaf/turnleaf/token/KeyType;"⟩ : MethodName) prog_36_method_8_code 5 (some (.object "com/example/turnleaf/turnleaf/token/KeyType")) :: ws) ({ frames := 2, cells := 1, slots := 8, locals := 25 } : Room)) (fun a U => a = #[(.int (6 : Int32))] ∧ Z.Warmed39 U.vm ∧ U.heap = h0) (fun _ _ _ _ _ => True) (fun _ U o U' => ∃ v L, o = .returned v ∧ QE Z (.ref w_VAL6) h0 v U'.heap L ∧ FrameEnd U o U' L ({ frames := 2, cells := 1, slots := 8, locals := 25 } : Room).cells ({ frames := 2, cells := 1, slots := 8, locals := 25 } : Room).slots) := by
  refine MetFree.of_bodySF (plainFor_of_name pn_0) hisR ?_
  intro p e s m args below meth c s₁ Bd hml0 hP hK
  obtain ⟨rfl, hZ, hh⟩ := hP
  have CX0 := CX
  obtain ⟨hw, E_VAL0, E_VAL1, E_VAL2, E_VAL3, E_VAL4, E_VAL5, E_VAL6, E_VAL7, O_VAL0, O_VAL1, S_INTEGER, O_VAL2, O_VAL3, O_VAL4, S_DECIMAL, O_VAL5, O_VAL6, O_VAL7, S_NULL, S_SHORT, S_DOUBLE, S_LONG, S_TEXT, S_UUID, S_VAL, E_VAL, V_VAL, -⟩ := CX0
  have hx := Bd.exec
  have hby := Bd.bytes
  have hml : c.maxLocals = 5 := hml0
  have hown : s.vm.findClass "com/example/turnleaf/turnleaf/token/KeyType" = some m.cls := findClass_of_methodNamed Bd.named
  have hnm := (name_of_methodNamed Bd.named Bd.method).1
  have hlk : meth.locks = false := BodyLoose.notSynchronized Bd
  have X0 : Stand p l e ({ frames := 2, cells := 1, slots := 8, locals := 25 } : Room) s m #[(.int (6 : Int32))] below meth c s₁ [] 0 0 := Stand.of_body Bd
  have e0 : s₁.heap = h0 := by rw [← hh, Bd.state]; rfl
  have N := Fr.nil Z.heap.size
  show own_Done p.tables e below (own_R (QE Z (.ref w_VAL6) h0) s 1 8) s₁ (entryFrame m #[(.int (6 : Int32))] 5)
  refine own_st (T' := s₁) (F' := (mkF m 0 #[.val (.int (6 : Int32)), .unset, .unset, .unset, .unset] [])) (fun t k => castTop (by first | rfl | (simp [entryFrame, mkF, argsToLocals, Value.category]; done)) k) ?_
  obtain ⟨v1, _, ⟨T1, L1, k1, n1⟩, -, X1, ⟨Lc1, hQ1, l1, y1, z1⟩, st1⟩ := Jvm.LawKit.callS X0 hx (y := (⟨"com/example/turnleaf/turnleaf/token/KeyType", "values", "()[Lcom/example/turnleaf/turnleaf/token/KeyType;"⟩ : MethodName)) hown (mvT hZ (hw _ (List.mem_of_getElem? (i := 4) rfl))) (mvT hZ (hw _ (List.mem_of_getElem? (i := 5) rfl))) (mvT hZ (hw _ (List.mem_of_getElem? (i := 2) rfl))) (mvT hZ (hw _ (List.mem_of_getElem? (i := 6) rfl))) (by decide) (backOf (W := 0) (rm2 l Z a0 CX [] h0 O) hZ (hw _ (List.mem_of_getElem? (i := 6) rfl)) (hw _ (List.mem_of_getElem? (i := 2) rfl)) (by decide) (by decide)) (g := (mkF m 0 #[.val (.int (6 : Int32)), .unset, .unset, .unset, .unset] [])) rfl (by rw [hml]; rfl) (argsL := []) (rest := []) (lenOf pd_0 rfl) rfl (by show 2 * 0 + _ ≤ _; exact Nat.le_of_eq rfl) (hb hby d1_0) (fun _ _ => ⟨rfl, e0, (by decide : 0 + 1 ≤ _), (by decide : 0 + 8 ≤ _)⟩)
  dsimp only [Pt.U, Pt.locs, Pt.cells, Pt.slots] at X1 l1 y1 z1 st1 hQ1
  subst l1 y1 z1
  obtain ⟨rfl, N1q, E1, V1⟩ := hQ1
  have N := Fr.app N N1q
  obtain ⟨b1, g1⟩ : ∃ z, z = h0.size := ⟨_, rfl⟩
  rw [← g1] at V1 st1
  have g_b1 : Z.heap.size ≤ b1 := Nat.le_trans O.1 (Nat.le_of_eq g1.symm)
  have O := own_ext_trans O E1
  have V_b1 := V1
  refine own_st (T' := T1) (F' := (mkF m 3 #[.val (.int (6 : Int32)), .unset, .unset, .unset, .unset] [(.ref b1)])) st1 ?_
  refine own_st (T' := T1) (F' := (mkF m 4 #[.val (.int (6 : Int32)), .val (.ref b1), .unset, .unset, .unset] [])) (fun t k => XS.astoreN X1.here hx rfl (hb hby d1_3) rfl rfl (l' := #[.val (.int (6 : Int32)), .val (.ref b1), .unset, .unset, .unset]) rfl k) ?_
  refine own_st (T' := T1) (F' := (mkF m 5 #[.val (.int (6 : Int32)), .val (.ref b1), .unset, .unset, .unset] [(.ref b1)])) (fun t k => XS.aloadN X1.here hx rfl (hb hby d1_4) rfl rfl k) ?_
  have V2 := V_b1
  obtain ⟨cl2, Ar2, qa2, Sa2, Na2, Ha2, Ga2⟩ := V2
  refine own_st (T' := T1) (F' := (mkF m 6 #[.val (.int (6 : Int32)), .val (.ref b1), .unset, .unset, .unset] [(.int (8 : Int32))])) (fun t k => X1.arraylength hx Ar2.1 (State.isArrayOf_alike hZ.alike Ar2.2.1) (g := (mkF m 5 #[.val (.int (6 : Int32)), .val (.ref b1), .unset, .unset, .unset] [(.ref b1)])) rfl rfl (hb hby d1_5) _ (by rw [(len_of Sa2 Na2)]; exact k)) ?_
  refine own_st (T' := T1) (F' := (mkF m 7 #[.val (.int (6 : Int32)), .val (.ref b1), .val (.int (8 : Int32)), .unset, .unset] [])) (fun t k => XS.istoreN X1.here hx rfl (hb hby d1_6) rfl (l' := #[.val (.int (6 : Int32)), .val (.ref b1), .val (.int (8 : Int32)), .unset, .unset]) rfl k) ?_
  refine own_st (T' := T1) (F' := (mkF m 8 #[.val (.int (6 : Int32)), .val (.ref b1), .val (.int (8 : Int32)), .unset, .unset] [(.int (0 : Int32))])) (fun t k => XS.iconst X1.here hx rfl (hb hby d1_7) k) ?_
  refine own_st (T' := T1) (F' := (mkF m 9 #[.val (.int (6 : Int32)), .val (.ref b1), .val (.int (8 : Int32)), .val (.int (0 : Int32)), .unset] [])) (fun t k => XS.istoreN X1.here hx rfl (hb hby d1_8) rfl (l' := #[.val (.int (6 : Int32)), .val (.ref b1), .val (.int (8 : Int32)), .val (.int (0 : Int32)), .unset]) rfl k) ?_
  refine own_st (T' := T1) (F' := (mkF m 10 #[.val (.int (6 : Int32)), .val (.ref b1), .val (.int (8 : Int32)), .val (.int (0 : Int32)), .unset] [(.int (0 : Int32))])) (fun t k => XS.iloadN X1.here hx rfl (hb hby d1_9) rfl k) ?_
  refine own_st (T' := T1) (F' := (mkF m 11 #[.val (.int (6 : Int32)), .val (.ref b1), .val (.int (8 : Int32)), .val (.int (0 : Int32)), .unset] [(.int (8 : Int32)), (.int (0 : Int32))])) (fun t k => XS.iloadN X1.here hx rfl (hb hby d1_10) rfl k) ?_
  refine own_st (T' := T1) (F' := (mkF m 14 #[.val (.int (6 : Int32)), .val (.ref b1), .val (.int (8 : Int32)), .val (.int (0 : Int32)), .unset] [])) (fun t k => XS.icmpNo X1.here hx rfl (hb hby d1_11) rfl (tlt (by decide : ((0 : Int32) < (8 : Int32)))).2.1 k) ?_
  refine own_st (T' := T1) (F' := (mkF m 15 #[.val (.int (6 : Int32)), .val (.ref b1), .val (.int (8 : Int32)), .val (.int (0 : Int32)), .unset] [(.ref b1)])) (fun t k => XS.aloadN X1.here hx rfl (hb hby d1_14) rfl rfl k) ?_
  refine own_st (T' := T1) (F' := (mkF m 16 #[.val (.int (6 : Int32)), .val (.ref b1), .val (.int (8 : Int32)), .val (.int (0 : Int32)), .unset] [(.int (0 : Int32)), (.ref b1)])) (fun t k => XS.iloadN X1.here hx rfl (hb hby d1_15) rfl k) ?_
  have V3 := V_b1
  obtain ⟨cl3, Ar3, qa3, Sa3, Na3, Ha3, Ga3⟩ := V3
  have hin3 : ¬ ((0 : Int32) < 0 ∨ cl3.slots.size ≤ ((0 : Int32)).toNatClampNeg) := inb_of Sa3 ⟨by decide, by decide⟩
  have hat3 : cl3.slots[((0 : Int32)).toNatClampNeg]? = some (.ref w_VAL0) := Has.at Ha3 hin3 rfl
  refine own_st (T' := T1) (F' := (mkF m 17 #[.val (.int (6 : Int32)), .val (.ref b1), .val (.int (8 : Int32)), .val (.int (0 : Int32)), .unset] [(.ref w_VAL0)])) (fun t k => X1.aaload hx (j := (0 : Int32)) (v := (.ref w_VAL0)) Ar3.1 (State.isArrayOf_alike hZ.alike Ar3.2.1) rfl Ar3.2.2 hin3 hat3 (g := (mkF m 16 #[.val (.int (6 : Int32)), .val (.ref b1), .val (.int (8 : Int32)), .val (.int (0 : Int32)), .unset] [(.int (0 : Int32)), (.ref b1)])) rfl rfl (hb hby d1_16) _ k) ?_
  refine own_st (T' := T1) (F' := (mkF m 19 #[.val (.int (6 : Int32)), .val (.ref b1), .val (.int (8 : Int32)), .val (.int (0 : Int32)), .val (.ref w_VAL0)] [])) (fun t k => XS.astore X1.here hx rfl (hb hby d1_17) rfl rfl (l' := #[.val (.int (6 : Int32)), .val (.ref b1), .val (.int (8 : Int32)), .val (.int (0 : Int32)), .val (.ref w_VAL0)]) rfl k) ?_
  refine own_st (T' := T1) (F' := (mkF m 21 #[.val (.int (6 : Int32)), .val (.ref b1), .val (.int (8 : Int32)), .val (.int (0 : Int32)), .val (.ref w_VAL0)] [(.ref w_VAL0)])) (fun t k => XS.aload X1.here hx rfl (hb hby d1_19) rfl rfl k) ?_
  obtain ⟨T4, X4, e4, st4⟩ := getF X1 hx hZ hown (host := "") (Or.inl (hw _ (List.mem_of_getElem? (i := 19) rfl))) Via.refl rfl (O_VAL0.ext O) (g := (mkF m 21 #[.val (.int (6 : Int32)), .val (.ref b1), .val (.int (8 : Int32)), .val (.int (0 : Int32)), .val (.ref w_VAL0)] [(.ref w_VAL0)])) rfl rfl (hb hby d1_21)
  refine own_st (T' := T4) (F' := (mkF m 24 #[.val (.int (6 : Int32)), .val (.ref b1), .val (.int (8 : Int32)), .val (.int (0 : Int32)), .val (.ref w_VAL0)] [(.int (8 : Int32))])) st4 ?_
  refine own_st (T' := T4) (F' := (mkF m 25 #[.val (.int (6 : Int32)), .val (.ref b1), .val (.int (8 : Int32)), .val (.int (0 : Int32)), .val (.ref w_VAL0)] [(.int (6 : Int32)), (.int (8 : Int32))])) (fun t k => XS.iloadN X4.here hx rfl (hb hby d1_24) rfl k) ?_
  refine own_st (T' := T4) (F' := (mkF m 31 #[.val (.int (6 : Int32)), .val (.ref b1), .val (.int (8 : Int32)), .val (.int (0 : Int32)), .val (.ref w_VAL0)] [])) (fun t k => XS.icmpYes X4.here hx rfl (pc0 := 25) (pc' := 31) rfl (hb hby d1_25) rfl (feq (by decide : ¬ ((8 : Int32) = (6 : Int32)))).2 (by decide) (by decide) k) ?_
  refine own_st (T' := T4) (F' := (mkF m 34 #[.val (.int (6 : Int32)), .val (.ref b1), .val (.int (8 : Int32)), .val (.int (1 : Int32)), .val (.ref w_VAL0)] [])) (fun t k => XS.iinc X4.here hx rfl (hb hby d1_31) rfl (l' := #[.val (.int (6 : Int32)), .val (.ref b1), .val (.int (8 : Int32)), .val (.int (1 : Int32)), .val (.ref w_VAL0)]) rfl k) ?_
  refine own_st (T' := T4) (F' := (mkF m 9 #[.val (.int (6 : Int32)), .val (.ref b1), .val (.int (8 : Int32)), .val (.int (1 : Int32)), .val (.ref w_VAL0)] [])) (fun t k => XS.goto X4.here hx rfl (pc0 := 34) (pc' := 9) rfl (hb hby d1_34) (by decide) (by decide) k) ?_
  refine own_st (T' := T4) (F' := (mkF m 10 #[.val (.int (6 : Int32)), .val (.ref b1), .val (.int (8 : Int32)), .val (.int (1 : Int32)), .val (.ref w_VAL0)] [(.int (1 : Int32))])) (fun t k => XS.iloadN X4.here hx rfl (hb hby d1_9) rfl k) ?_
  refine own_st (T' := T4) (F' := (mkF m 11 #[.val (.int (6 : Int32)), .val (.ref b1), .val (.int (8 : Int32)), .val (.int (1 : Int32)), .val (.ref w_VAL0)] [(.int (8 : Int32)), (.int (1 : Int32))])) (fun t k => XS.iloadN X4.here hx rfl (hb hby d1_10) rfl k) ?_
  refine own_st (T' := T4) (F' := (mkF m 14 #[.val (.int (6 : Int32)), .val (.ref b1), .val (.int (8 : Int32)), .val (.int (1 : Int32)), .val (.ref w_VAL0)] [])) (fun t k => XS.icmpNo X4.here hx rfl (hb hby d1_11) rfl (tlt (by decide : ((1 : Int32) < (8 : Int32)))).2.1 k) ?_
  refine own_st (T' := T4) (F' := (mkF m 15 #[.val (.int (6 : Int32)), .val (.ref b1), .val (.int (8 : Int32)), .val (.int (1 : Int32)), .val (.ref w_VAL0)] [(.ref b1)])) (fun t k => XS.aloadN X4.here hx rfl (hb hby d1_14) rfl rfl k) ?_
  refine own_st (T' := T4) (F' := (mkF m 16 #[.val (.int (6 : Int32)), .val (.ref b1), .val (.int (8 : Int32)), .val (.int (1 : Int32)), .val (.ref w_VAL0)] [(.int (1 : Int32)), (.ref b1)])) (fun t k => XS.iloadN X4.here hx rfl (hb hby d1_15) rfl k) ?_
  have V5 := V_b1
  obtain ⟨cl5, Ar5, qa5, Sa5, Na5, Ha5, Ga5⟩ := V5
  have hin5 : ¬ ((1 : Int32) < 0 ∨ cl5.slots.size ≤ ((1 : Int32)).toNatClampNeg) := inb_of Sa5 ⟨by decide, by decide⟩
  have hat5 : cl5.slots[((1 : Int32)).toNatClampNeg]? = some (.ref w_VAL1) := Has.at Ha5 hin5 rfl
  refine own_st (T' := T4) (F' := (mkF m 17 #[.val (.int (6 : Int32)), .val (.ref b1), .val (.int (8 : Int32)), .val (.int (1 : Int32)), .val (.ref w_VAL0)] [(.ref w_VAL1)])) (fun t k => X4.aaload hx (j := (1 : Int32)) (v := (.ref w_VAL1)) (by rw [e4]; exact Ar5.1) (State.isArrayOf_alike hZ.alike Ar5.2.1) rfl Ar5.2.2 hin5 hat5 (g := (mkF m 16 #[.val (.int (6 : Int32)), .val (.ref b1), .val (.int (8 : Int32)), .val (.int (1 : Int32)), .val (.ref w_VAL0)] [(.int (1 : Int32)), (.ref b1)])) rfl rfl (hb hby d1_16) _ k) ?_
  refine own_st (T' := T4) (F' := (mkF m 19 #[.val (.int (6 : Int32)), .val (.ref b1), .val (.int (8 : Int32)), .val (.int (1 : Int32)), .val (.ref w_VAL1)] [])) (fun t k => XS.astore X4.here hx rfl (hb hby d1_17) rfl rfl (l' := #[.val (.int (6 : Int32)), .val (.ref b1), .val (.int (8 : Int32)), .val (.int (1 : Int32)), .val (.ref w_VAL1)]) rfl k) ?_
  refine own_st (T' := T4) (F' := (mkF m 21 #[.val (.int (6 : Int32)), .val (.ref b1), .val (.int (8 : Int32)), .val (.int (1 : Int32)), .val (.ref w_VAL1)] [(.ref w_VAL1)])) (fun t k => XS.aload X4.here hx rfl (hb hby d1_19) rfl rfl k) ?_
  obtain ⟨T6, X6, e6, st6⟩ := getF X4 hx hZ hown (host := "") (Or.inl (hw _ (List.mem_of_getElem? (i := 19) rfl))) Via.refl e4 (O_VAL1.ext O) (g := (mkF m 21 #[.val (.int (6 : Int32)), .val (.ref b1), .val (.int (8 : Int32)), .val (.int (1 : Int32)), .val (.ref w_VAL1)] [(.ref w_VAL1)])) rfl rfl (hb hby d1_21)
  refine own_st (T' := T6) (F' := (mkF m 24 #[.val (.int (6 : Int32)), .val (.ref b1), .val (.int (8 : Int32)), .val (.int (1 : Int32)), .val (.ref w_VAL1)] [(.int (1 : Int32))])) st6 ?_
  refine own_st (T' := T6) (F' := (mkF m 25 #[.val (.int (6 : Int32)), .val (.ref b1), .val (.int (8 : Int32)), .val (.int (1 : Int32)), .val (.ref w_VAL1)] [(.int (6 : Int32)), (.int (1 : Int32))])) (fun t k => XS.iloadN X6.here hx rfl (hb hby d1_24) rfl k) ?_
  refine own_st (T' := T6) (F' := (mkF m 31 #[.val (.int (6 : Int32)), .val (.ref b1), .val (.int (8 : Int32)), .val (.int (1 : Int32)), .val (.ref w_VAL1)] [])) (fun t k => XS.icmpYes X6.here hx rfl (pc0 := 25) (pc' := 31) rfl (hb hby d1_25) rfl (feq (by decide : ¬ ((1 : Int32) = (6 : Int32)))).2 (by decide) (by decide) k) ?_
  refine own_st (T' := T6) (F' := (mkF m 34 #[.val (.int (6 : Int32)), .val (.ref b1), .val (.int (8 : Int32)), .val (.int (2 : Int32)), .val (.ref w_VAL1)] [])) (fun t k => XS.iinc X6.here hx rfl (hb hby d1_31) rfl (l' := #[.val (.int (6 : Int32)), .val (.ref b1), .val (.int (8 : Int32)), .val (.int (2 : Int32)), .val (.ref w_VAL1)]) rfl k) ?_
  refine own_st (T' := T6) (F' := (mkF m 9 #[.val (.int (6 : Int32)), .val (.ref b1), .val (.int (8 : Int32)), .val (.int (2 : Int32)), .val (.ref w_VAL1)] [])) (fun t k => XS.goto X6.here hx rfl (pc0 := 34) (pc' := 9) rfl (hb hby d1_34) (by decide) (by decide) k) ?_
  refine own_st (T' := T6) (F' := (mkF m 10 #[.val (.int (6 : Int32)), .val (.ref b1), .val (.int (8 : Int32)), .val (.int (2 : Int32)), .val (.ref w_VAL1)] [(.int (2 : Int32))])) (fun t k => XS.iloadN X6.here hx rfl (hb hby d1_9) rfl k) ?_
  refine own_st (T' := T6) (F' := (mkF m 11 #[.val (.int (6 : Int32)), .val (.ref b1), .val (.int (8 : Int32)), .val (.int (2 : Int32)), .val (.ref w_VAL1)] [(.int (8 : Int32)), (.int (2 : Int32))])) (fun t k => XS.iloadN X6.here hx rfl (hb hby d1_10) rfl k) ?_
  refine own_st (T' := T6) (F' := (mkF m 14 #[.val (.int (6 : Int32)), .val (.ref b1), .val (.int (8 : Int32)), .val (.int (2 : Int32)), .val (.ref w_VAL1)] [])) (fun t k => XS.icmpNo X6.here hx rfl (hb hby d1_11) rfl (tlt (by decide : ((2 : Int32) < (8 : Int32)))).2.1 k) ?_
  refine own_st (T' := T6) (F' := (mkF m 15 #[.val (.int (6 : Int32)), .val (.ref b1), .val (.int (8 : Int32)), .val (.int (2 : Int32)), .val (.ref w_VAL1)] [(.ref b1)])) (fun t k => XS.aloadN X6.here hx rfl (hb hby d1_14) rfl rfl k) ?_
  refine own_st (T' := T6) (F' := (mkF m 16 #[.val (.int (6 : Int32)), .val (.ref b1), .val (.int (8 : Int32)), .val (.int (2 : Int32)), .val (.ref w_VAL1)] [(.int (2 : Int32)), (.ref b1)])) (fun t k => XS.iloadN X6.here hx rfl (hb hby d1_15) rfl k) ?_
  have V7 := V_b1
  obtain ⟨cl7, Ar7, qa7, Sa7, Na7, Ha7, Ga7⟩ := V7
  have hin7 : ¬ ((2 : Int32) < 0 ∨ cl7.slots.size ≤ ((2 : Int32)).toNatClampNeg) := inb_of Sa7 ⟨by decide, by decide⟩
  have hat7 : cl7.slots[((2 : Int32)).toNatClampNeg]? = some (.ref w_VAL2) := Has.at Ha7 hin7 rfl
  refine own_st (T' := T6) (F' := (mkF m 17 #[.val (.int (6 : Int32)), .val (.ref b1), .val (.int (8 : Int32)), .val (.int (2 : Int32)), .val (.ref w_VAL1)] [(.ref w_VAL2)])) (fun t k => X6.aaload hx (j := (2 : Int32)) (v := (.ref w_VAL2)) (by rw [e6]; exact Ar7.1) (State.isArrayOf_alike hZ.alike Ar7.2.1) rfl Ar7.2.2 hin7 hat7 (g := (mkF m 16 #[.val (.int (6 : Int32)), .val (.ref b1), .val (.int (8 : Int32)), .val (.int (2 : Int32)), .val (.ref w_VAL1)] [(.int (2 : Int32)), (.ref b1)])) rfl rfl (hb hby d1_16) _ k) ?_
  refine own_st (T' := T6) (F' := (mkF m 19 #[.val (.int (6 : Int32)), .val (.ref b1), .val (.int (8 : Int32)), .val (.int (2 : Int32)), .val (.ref w_VAL2)] [])) (fun t k => XS.astore X6.here hx rfl (hb hby d1_17) rfl rfl (l' := #[.val (.int (6 : Int32)), .val (.ref b1), .val (.int (8 : Int32)), .val (.int (2 : Int32)), .val (.ref w_VAL2)]) rfl k) ?_
  refine own_st (T' := T6) (F' := (mkF m 21 #[.val (.int (6 : Int32)), .val (.ref b1), .val (.int (8 : Int32)), .val (.int (2 : Int32)), .val (.ref w_VAL2)] [(.ref w_VAL2)])) (fun t k => XS.aload X6.here hx rfl (hb hby d1_19) rfl rfl k) ?_
  obtain ⟨T8, X8, e8, st8⟩ := getF X6 hx hZ hown (host := "") (Or.inl (hw _ (List.mem_of_getElem? (i := 19) rfl))) Via.refl e6 (O_VAL2.ext O) (g := (mkF m 21 #[.val (.int (6 : Int32)), .val (.ref b1), .val (.int (8 : Int32)), .val (.int (2 : Int32)), .val (.ref w_VAL2)] [(.ref w_VAL2)])) rfl rfl (hb hby d1_21)
  refine own_st (T' := T8) (F' := (mkF m 24 #[.val (.int (6 : Int32)), .val (.ref b1), .val (.int (8 : Int32)), .val (.int (2 : Int32)), .val (.ref w_VAL2)] [(.int (2 : Int32))])) st8 ?_
  refine own_st (T' := T8) (F' := (mkF m 25 #[.val (.int (6 : Int32)), .val (.ref b1), .val (.int (8 : Int32)), .val (.int (2 : Int32)), .val (.ref w_VAL2)] [(.int (6 : Int32)), (.int (2 : Int32))])) (fun t k => XS.iloadN X8.here hx rfl (hb hby d1_24) rfl k) ?_
  refine own_st (T' := T8) (F' := (mkF m 31 #[.val (.int (6 : Int32)), .val (.ref b1), .val (.int (8 : Int32)), .val (.int (2 : Int32)), .val (.ref w_VAL2)] [])) (fun t k => XS.icmpYes X8.here hx rfl (pc0 := 25) (pc' := 31) rfl (hb hby d1_25) rfl (feq (by decide : ¬ ((2 : Int32) = (6 : Int32)))).2 (by decide) (by decide) k) ?_
  refine own_st (T' := T8) (F' := (mkF m 34 #[.val (.int (6 : Int32)), .val (.ref b1), .val (.int (8 : Int32)), .val (.int (3 : Int32)), .val (.ref w_VAL2)] [])) (fun t k => XS.iinc X8.here hx rfl (hb hby d1_31) rfl (l' := #[.val (.int (6 : Int32)), .val (.ref b1), .val (.int (8 : Int32)), .val (.int (3 : Int32)), .val (.ref w_VAL2)]) rfl k) ?_
  refine own_st (T' := T8) (F' := (mkF m 9 #[.val (.int (6 : Int32)), .val (.ref b1), .val (.int (8 : Int32)), .val (.int (3 : Int32)), .val (.ref w_VAL2)] [])) (fun t k => XS.goto X8.here hx rfl (pc0 := 34) (pc' := 9) rfl (hb hby d1_34) (by decide) (by decide) k) ?_
  refine own_st (T' := T8) (F' := (mkF m 10 #[.val (.int (6 : Int32)), .val (.ref b1), .val (.int (8 : Int32)), .val (.int (3 : Int32)), .val (.ref w_VAL2)] [(.int (3 : Int32))])) (fun t k => XS.iloadN X8.here hx rfl (hb hby d1_9) rfl k) ?_
  refine own_st (T' := T8) (F' := (mkF m 11 #[.val (.int (6 : Int32)), .val (.ref b1), .val (.int (8 : Int32)), .val (.int (3 : Int32)), .val (.ref w_VAL2)] [(.int (8 : Int32)), (.int (3 : Int32))])) (fun t k => XS.iloadN X8.here hx rfl (hb hby d1_10) rfl k) ?_
  refine own_st (T' := T8) (F' := (mkF m 14 #[.val (.int (6 : Int32)), .val (.ref b1), .val (.int (8 : Int32)), .val (.int (3 : Int32)), .val (.ref w_VAL2)] [])) (fun t k => XS.icmpNo X8.here hx rfl (hb hby d1_11) rfl (tlt (by decide : ((3 : Int32) < (8 : Int32)))).2.1 k) ?_
  refine own_st (T' := T8) (F' := (mkF m 15 #[.val (.int (6 : Int32)), .val (.ref b1), .val (.int (8 : Int32)), .val (.int (3 : Int32)), .val (.ref w_VAL2)] [(.ref b1)])) (fun t k => XS.aloadN X8.here hx rfl (hb hby d1_14) rfl rfl k) ?_
  refine own_st (T' := T8) (F' := (mkF m 16 #[.val (.int (6 : Int32)), .val (.ref b1), .val (.int (8 : Int32)), .val (.int (3 : Int32)), .val (.ref w_VAL2)] [(.int (3 : Int32)), (.ref b1)])) (fun t k => XS.iloadN X8.here hx rfl (hb hby d1_15) rfl k) ?_
  have V9 := V_b1
  obtain ⟨cl9, Ar9, qa9, Sa9, Na9, Ha9, Ga9⟩ := V9
  have hin9 : ¬ ((3 : Int32) < 0 ∨ cl9.slots.size ≤ ((3 : Int32)).toNatClampNeg) := inb_of Sa9 ⟨by decide, by decide⟩
  have hat9 : cl9.slots[((3 : Int32)).toNatClampNeg]? = some (.ref w_VAL3) := Has.at Ha9 hin9 rfl
  refine own_st (T' := T8) (F' := (mkF m 17 #[.val (.int (6 : Int32)), .val (.ref b1), .val (.int (8 : Int32)), .val (.int (3 : Int32)), .val (.ref w_VAL2)] [(.ref w_VAL3)])) (fun t k => X8.aaload hx (j := (3 : Int32)) (v := (.ref w_VAL3)) (by rw [e8]; exact Ar9.1) (State.isArrayOf_alike hZ.alike Ar9.2.1) rfl Ar9.2.2 hin9 hat9 (g := (mkF m 16 #[.val (.int (6 : Int32)), .val (.ref b1), .val (.int (8 : Int32)), .val (.int (3 : Int32)), .val (.ref w_VAL2)] [(.int (3 : Int32)), (.ref b1)])) rfl rfl (hb hby d1_16) _ k) ?_
  refine own_st (T' := T8) (F' := (mkF m 19 #[.val (.int (6 : Int32)), .val (.ref b1), .val (.int (8 : Int32)), .val (.int (3 : Int32)), .val (.ref w_VAL3)] [])) (fun t k => XS.astore X8.here hx rfl (hb hby d1_17) rfl rfl (l' := #[.val (.int (6 : Int32)), .val (.ref b1), .val (.int (8 : Int32)), .val (.int (3 : Int32)), .val (.ref w_VAL3)]) rfl k) ?_
  refine own_st (T' := T8) (F' := (mkF m 21 #[.val (.int (6 : Int32)), .val (.ref b1), .val (.int (8 : Int32)), .val (.int (3 : Int32)), .val (.ref w_VAL3)] [(.ref w_VAL3)])) (fun t k => XS.aload X8.here hx rfl (hb hby d1_19) rfl rfl k) ?_
  obtain ⟨T10, X10, e10, st10⟩ := getF X8 hx hZ hown (host := "") (Or.inl (hw _ (List.mem_of_getElem? (i := 19) rfl))) Via.refl e8 (O_VAL3.ext O) (g := (mkF m 21 #[.val (.int (6 : Int32)), .val (.ref b1), .val (.int (8 : Int32)), .val (.int (3 : Int32)), .val (.ref w_VAL3)] [(.ref w_VAL3)])) rfl rfl (hb hby d1_21)
  refine own_st (T' := T10) (F' := (mkF m 24 #[.val (.int (6 : Int32)), .val (.ref b1), .val (.int (8 : Int32)), .val (.int (3 : Int32)), .val (.ref w_VAL3)] [(.int (3 : Int32))])) st10 ?_
  refine own_st (T' := T10) (F' := (mkF m 25 #[.val (.int (6 : Int32)), .val (.ref b1), .val (.int (8 : Int32)), .val (.int (3 : Int32)), .val (.ref w_VAL3)] [(.int (6 : Int32)), (.int (3 : Int32))])) (fun t k => XS.iloadN X10.here hx rfl (hb hby d1_24) rfl k) ?_
  refine own_st (T' := T10) (F' := (mkF m 31 #[.val (.int (6 : Int32)), .val (.ref b1), .val (.int (8 : Int32)), .val (.int (3 : Int32)), .val (.ref w_VAL3)] [])) (fun t k => XS.icmpYes X10.here hx rfl (pc0 := 25) (pc' := 31) rfl (hb hby d1_25) rfl (feq (by decide : ¬ ((3 : Int32) = (6 : Int32)))).2 (by decide) (by decide) k) ?_
  refine own_st (T' := T10) (F' := (mkF m 34 #[.val (.int (6 : Int32)), .val (.ref b1), .val (.int (8 : Int32)), .val (.int (4 : Int32)), .val (.ref w_VAL3)] [])) (fun t k => XS.iinc X10.here hx rfl (hb hby d1_31) rfl (l' := #[.val (.int (6 : Int32)), .val (.ref b1), .val (.int (8 : Int32)), .val (.int (4 : Int32)), .val (.ref w_VAL3)]) rfl k) ?_
  refine own_st (T' := T10) (F' := (mkF m 9 #[.val (.int (6 : Int32)), .val (.ref b1), .val (.int (8 : Int32)), .val (.int (4 : Int32)), .val (.ref w_VAL3)] [])) (fun t k => XS.goto X10.here hx rfl (pc0 := 34) (pc' := 9) rfl (hb hby d1_34) (by decide) (by decide) k) ?_
  refine own_st (T' := T10) (F' := (mkF m 10 #[.val (.int (6 : Int32)), .val (.ref b1), .val (.int (8 : Int32)), .val (.int (4 : Int32)), .val (.ref w_VAL3)] [(.int (4 : Int32))])) (fun t k => XS.iloadN X10.here hx rfl (hb hby d1_9) rfl k) ?_
  refine own_st (T' := T10) (F' := (mkF m 11 #[.val (.int (6 : Int32)), .val (.ref b1), .val (.int (8 : Int32)), .val (.int (4 : Int32)), .val (.ref w_VAL3)] [(.int (8 : Int32)), (.int (4 : Int32))])) (fun t k => XS.iloadN X10.here hx rfl (hb hby d1_10) rfl k) ?_
  refine own_st (T' := T10) (F' := (mkF m 14 #[.val (.int (6 : Int32)), .val (.ref b1), .val (.int (8 : Int32)), .val (.int (4 : Int32)), .val (.ref w_VAL3)] [])) (fun t k => XS.icmpNo X10.here hx rfl (hb hby d1_11) rfl (tlt (by decide : ((4 : Int32) < (8 : Int32)))).2.1 k) ?_
  refine own_st (T' := T10) (F' := (mkF m 15 #[.val (.int (6 : Int32)), .val (.ref b1), .val (.int (8 : Int32)), .val (.int (4 : Int32)), .val (.ref w_VAL3)] [(.ref b1)])) (fun t k => XS.aloadN X10.here hx rfl (hb hby d1_14) rfl rfl k) ?_
  refine own_st (T' := T10) (F' := (mkF m 16 #[.val (.int (6 : Int32)), .val (.ref b1), .val (.int (8 : Int32)), .val (.int (4 : Int32)), .val (.ref w_VAL3)] [(.int (4 : Int32)), (.ref b1)])) (fun t k => XS.iloadN X10.here hx rfl (hb hby d1_15) rfl k) ?_
  have V11 := V_b1
  obtain ⟨cl11, Ar11, qa11, Sa11, Na11, Ha11, Ga11⟩ := V11
  have hin11 : ¬ ((4 : Int32) < 0 ∨ cl11.slots.size ≤ ((4 : Int32)).toNatClampNeg) := inb_of Sa11 ⟨by decide, by decide⟩
  have hat11 : cl11.slots[((4 : Int32)).toNatClampNeg]? = some (.ref w_VAL4) := Has.at Ha11 hin11 rfl
  refine own_st (T' := T10) (F' := (mkF m 17 #[.val (.int (6 : Int32)), .val (.ref b1), .val (.int (8 : Int32)), .val (.int (4 : Int32)), .val (.ref w_VAL3)] [(.ref w_VAL4)])) (fun t k => X10.aaload hx (j := (4 : Int32)) (v := (.ref w_VAL4)) (by rw [e10]; exact Ar11.1) (State.isArrayOf_alike hZ.alike Ar11.2.1) rfl Ar11.2.2 hin11 hat11 (g := (mkF m 16 #[.val (.int (6 : Int32)), .val (.ref b1), .val (.int (8 : Int32)), .val (.int (4 : Int32)), .val (.ref w_VAL3)] [(.int (4 : Int32)), (.ref b1)])) rfl rfl (hb hby d1_16) _ k) ?_
  refine own_st (T' := T10) (F' := (mkF m 19 #[.val (.int (6 : Int32)), .val (.ref b1), .val (.int (8 : Int32)), .val (.int (4 : Int32)), .val (.ref w_VAL4)] [])) (fun t k => XS.astore X10.here hx rfl (hb hby d1_17) rfl rfl (l' := #[.val (.int (6 : Int32)), .val (.ref b1), .val (.int (8 : Int32)), .val (.int (4 : Int32)), .val (.ref w_VAL4)]) rfl k) ?_
  refine own_st (T' := T10) (F' := (mkF m 21 #[.val (.int (6 : Int32)), .val (.ref b1), .val (.int (8 : Int32)), .val (.int (4 : Int32)), .val (.ref w_VAL4)] [(.ref w_VAL4)])) (fun t k => XS.aload X10.here hx rfl (hb hby d1_19) rfl rfl k) ?_
  obtain ⟨T12, X12, e12, st12⟩ := getF X10 hx hZ hown (host := "") (Or.inl (hw _ (List.mem_of_getElem? (i := 19) rfl))) Via.refl e10 (O_VAL4.ext O) (g := (mkF m 21 #[.val (.int (6 : Int32)), .val (.ref b1), .val (.int (8 : Int32)), .val (.int (4 : Int32)), .val (.ref w_VAL4)] [(.ref w_VAL4)])) rfl rfl (hb hby d1_21)
  refine own_st (T' := T12) (F' := (mkF m 24 #[.val (.int (6 : Int32)), .val (.ref b1), .val (.int (8 : Int32)), .val (.int (4 : Int32)), .val (.ref w_VAL4)] [(.int (4 : Int32))])) st12 ?_
  refine own_st (T' := T12) (F' := (mkF m 25 #[.val (.int (6 : Int32)), .val (.ref b1), .val (.int (8 : Int32)), .val (.int (4 : Int32)), .val (.ref w_VAL4)] [(.int (6 : Int32)), (.int (4 : Int32))])) (fun t k => XS.iloadN X12.here hx rfl (hb hby d1_24) rfl k) ?_
  refine own_st (T' := T12) (F' := (mkF m 31 #[.val (.int (6 : Int32)), .val (.ref b1), .val (.int (8 : Int32)), .val (.int (4 : Int32)), .val (.ref w_VAL4)] [])) (fun t k => XS.icmpYes X12.here hx rfl (pc0 := 25) (pc' := 31) rfl (hb hby d1_25) rfl (feq (by decide : ¬ ((4 : Int32) = (6 : Int32)))).2 (by decide) (by decide) k) ?_
  refine own_st (T' := T12) (F' := (mkF m 34 #[.val (.int (6 : Int32)), .val (.ref b1), .val (.int (8 : Int32)), .val (.int (5 : Int32)), .val (.ref w_VAL4)] [])) (fun t k => XS.iinc X12.here hx rfl (hb hby d1_31) rfl (l' := #[.val (.int (6 : Int32)), .val (.ref b1), .val (.int (8 : Int32)), .val (.int (5 : Int32)), .val (.ref w_VAL4)]) rfl k) ?_
  refine own_st (T' := T12) (F' := (mkF m 9 #[.val (.int (6 : Int32)), .val (.ref b1), .val (.int (8 : Int32)), .val (.int (5 : Int32)), .val (.ref w_VAL4)] [])) (fun t k => XS.goto X12.here hx rfl (pc0 := 34) (pc' := 9) rfl (hb hby d1_34) (by decide) (by decide) k) ?_
  refine own_st (T' := T12) (F' := (mkF m 10 #[.val (.int (6 : Int32)), .val (.ref b1), .val (.int (8 : Int32)), .val (.int (5 : Int32)), .val (.ref w_VAL4)] [(.int (5 : Int32))])) (fun t k => XS.iloadN X12.here hx rfl (hb hby d1_9) rfl k) ?_
  refine own_st (T' := T12) (F' := (mkF m 11 #[.val (.int (6 : Int32)), .val (.ref b1), .val (.int (8 : Int32)), .val (.int (5 : Int32)), .val (.ref w_VAL4)] [(.int (8 : Int32)), (.int (5 : Int32))])) (fun t k => XS.iloadN X12.here hx rfl (hb hby d1_10) rfl k) ?_
  refine own_st (T' := T12) (F' := (mkF m 14 #[.val (.int (6 : Int32)), .val (.ref b1), .val (.int (8 : Int32)), .val (.int (5 : Int32)), .val (.ref w_VAL4)] [])) (fun t k => XS.icmpNo X12.here hx rfl (hb hby d1_11) rfl (tlt (by decide : ((5 : Int32) < (8 : Int32)))).2.1 k) ?_
  refine own_st (T' := T12) (F' := (mkF m 15 #[.val (.int (6 : Int32)), .val (.ref b1), .val (.int (8 : Int32)), .val (.int (5 : Int32)), .val (.ref w_VAL4)] [(.ref b1)])) (fun t k => XS.aloadN X12.here hx rfl (hb hby d1_14) rfl rfl k) ?_
  refine own_st (T' := T12) (F' := (mkF m 16 #[.val (.int (6 : Int32)), .val (.ref b1), .val (.int (8 : Int32)), .val (.int (5 : Int32)), .val (.ref w_VAL4)] [(.int (5 : Int32)), (.ref b1)])) (fun t k => XS.iloadN X12.here hx rfl (hb hby d1_15) rfl k) ?_
  have V13 := V_b1
  obtain ⟨cl13, Ar13, qa13, Sa13, Na13, Ha13, Ga13⟩ := V13
  have hin13 : ¬ ((5 : Int32) < 0 ∨ cl13.slots.size ≤ ((5 : Int32)).toNatClampNeg) := inb_of Sa13 ⟨by decide, by decide⟩
  have hat13 : cl13.slots[((5 : Int32)).toNatClampNeg]? = some (.ref w_VAL5) := Has.at Ha13 hin13 rfl
  refine own_st (T' := T12) (F' := (mkF m 17 #[.val (.int (6 : Int32)), .val (.ref b1), .val (.int (8 : Int32)), .val (.int (5 : Int32)), .val (.ref w_VAL4)] [(.ref w_VAL5)])) (fun t k => X12.aaload hx (j := (5 : Int32)) (v := (.ref w_VAL5)) (by rw [e12]; exact Ar13.1) (State.isArrayOf_alike hZ.alike Ar13.2.1) rfl Ar13.2.2 hin13 hat13 (g := (mkF m 16 #[.val (.int (6 : Int32)), .val (.ref b1), .val (.int (8 : Int32)), .val (.int (5 : Int32)), .val (.ref w_VAL4)] [(.int (5 : Int32)), (.ref b1)])) rfl rfl (hb hby d1_16) _ k) ?_
  refine own_st (T' := T12) (F' := (mkF m 19 #[.val (.int (6 : Int32)), .val (.ref b1), .val (.int (8 : Int32)), .val (.int (5 : Int32)), .val (.ref w_VAL5)] [])) (fun t k => XS.astore X12.here hx rfl (hb hby d1_17) rfl rfl (l' := #[.val (.int (6 : Int32)), .val (.ref b1), .val (.int (8 : Int32)), .val (.int (5 : Int32)), .val (.ref w_VAL5)]) rfl k) ?_
  refine own_st (T' := T12) (F' := (mkF m 21 #[.val (.int (6 : Int32)), .val (.ref b1), .val (.int (8 : Int32)), .val (.int (5 : Int32)), .val (.ref w_VAL5)] [(.ref w_VAL5)])) (fun t k => XS.aload X12.here hx rfl (hb hby d1_19) rfl rfl k) ?_
  obtain ⟨T14, X14, e14, st14⟩ := getF X12 hx hZ hown (host := "") (Or.inl (hw _ (List.mem_of_getElem? (i := 19) rfl))) Via.refl e12 (O_VAL5.ext O) (g := (mkF m 21 #[.val (.int (6 : Int32)), .val (.ref b1), .val (.int (8 : Int32)), .val (.int (5 : Int32)), .val (.ref w_VAL5)] [(.ref w_VAL5)])) rfl rfl (hb hby d1_21)
  refine own_st (T' := T14) (F' := (mkF m 24 #[.val (.int (6 : Int32)), .val (.ref b1), .val (.int (8 : Int32)), .val (.int (5 : Int32)), .val (.ref w_VAL5)] [(.int (5 : Int32))])) st14 ?_
  refine own_st (T' := T14) (F' := (mkF m 25 #[.val (.int (6 : Int32)), .val (.ref b1), .val (.int (8 : Int32)), .val (.int (5 : Int32)), .val (.ref w_VAL5)] [(.int (6 : Int32)), (.int (5 : Int32))])) (fun t k => XS.iloadN X14.here hx rfl (hb hby d1_24) rfl k) ?_
  refine own_st (T' := T14) (F' := (mkF m 31 #[.val (.int (6 : Int32)), .val (.ref b1), .val (.int (8 : Int32)), .val (.int (5 : Int32)), .val (.ref w_VAL5)] [])) (fun t k => XS.icmpYes X14.here hx rfl (pc0 := 25) (pc' := 31) rfl (hb hby d1_25) rfl (feq (by decide : ¬ ((5 : Int32) = (6 : Int32)))).2 (by decide) (by decide) k) ?_
  refine own_st (T' := T14) (F' := (mkF m 34 #[.val (.int (6 : Int32)), .val (.ref b1), .val (.int (8 : Int32)), .val (.int (6 : Int32)), .val (.ref w_VAL5)] [])) (fun t k => XS.iinc X14.here hx rfl (hb hby d1_31) rfl (l' := #[.val (.int (6 : Int32)), .val (.ref b1), .val (.int (8 : Int32)), .val (.int (6 : Int32)), .val (.ref w_VAL5)]) rfl k) ?_
  refine own_st (T' := T14) (F' := (mkF m 9 #[.val (.int (6 : Int32)), .val (.ref b1), .val (.int (8 : Int32)), .val (.int (6 : Int32)), .val (.ref w_VAL5)] [])) (fun t k => XS.goto X14.here hx rfl (pc0 := 34) (pc' := 9) rfl (hb hby d1_34) (by decide) (by decide) k) ?_
  refine own_st (T' := T14) (F' := (mkF m 10 #[.val (.int (6 : Int32)), .val (.ref b1), .val (.int (8 : Int32)), .val (.int (6 : Int32)), .val (.ref w_VAL5)] [(.int (6 : Int32))])) (fun t k => XS.iloadN X14.here hx rfl (hb hby d1_9) rfl k) ?_
  refine own_st (T' := T14) (F' := (mkF m 11 #[.val (.int (6 : Int32)), .val (.ref b1), .val (.int (8 : Int32)), .val (.int (6 : Int32)), .val (.ref w_VAL5)] [(.int (8 : Int32)), (.int (6 : Int32))])) (fun t k => XS.iloadN X14.here hx rfl (hb hby d1_10) rfl k) ?_
  refine own_st (T' := T14) (F' := (mkF m 14 #[.val (.int (6 : Int32)), .val (.ref b1), .val (.int (8 : Int32)), .val (.int (6 : Int32)), .val (.ref w_VAL5)] [])) (fun t k => XS.icmpNo X14.here hx rfl (hb hby d1_11) rfl (tlt (by decide : ((6 : Int32) < (8 : Int32)))).2.1 k) ?_
  refine own_st (T' := T14) (F' := (mkF m 15 #[.val (.int (6 : Int32)), .val (.ref b1), .val (.int (8 : Int32)), .val (.int (6 : Int32)), .val (.ref w_VAL5)] [(.ref b1)])) (fun t k => XS.aloadN X14.here hx rfl (hb hby d1_14) rfl rfl k) ?_
  refine own_st (T' := T14) (F' := (mkF m 16 #[.val (.int (6 : Int32)), .val (.ref b1), .val (.int (8 : Int32)), .val (.int (6 : Int32)), .val (.ref w_VAL5)] [(.int (6 : Int32)), (.ref b1)])) (fun t k => XS.iloadN X14.here hx rfl (hb hby d1_15) rfl k) ?_
  have V15 := V_b1
  obtain ⟨cl15, Ar15, qa15, Sa15, Na15, Ha15, Ga15⟩ := V15
  have hin15 : ¬ ((6 : Int32) < 0 ∨ cl15.slots.size ≤ ((6 : Int32)).toNatClampNeg) := inb_of Sa15 ⟨by decide, by decide⟩
  have hat15 : cl15.slots[((6 : Int32)).toNatClampNeg]? = some (.ref w_VAL6) := Has.at Ha15 hin15 rfl
  refine own_st (T' := T14) (F' := (mkF m 17 #[.val (.int (6 : Int32)), .val (.ref b1), .val (.int (8 : Int32)), .val (.int (6 : Int32)), .val (.ref w_VAL5)] [(.ref w_VAL6)])) (fun t k => X14.aaload hx (j := (6 : Int32)) (v := (.ref w_VAL6)) (by rw [e14]; exact Ar15.1) (State.isArrayOf_alike hZ.alike Ar15.2.1) rfl Ar15.2.2 hin15 hat15 (g := (mkF m 16 #[.val (.int (6 : Int32)), .val (.ref b1), .val (.int (8 : Int32)), .val (.int (6 : Int32)), .val (.ref w_VAL5)] [(.int (6 : Int32)), (.ref b1)])) rfl rfl (hb hby d1_16) _ k) ?_
  refine own_st (T' := T14) (F' := (mkF m 19 #[.val (.int (6 : Int32)), .val (.ref b1), .val (.int (8 : Int32)), .val (.int (6 : Int32)), .val (.ref w_VAL6)] [])) (fun t k => XS.astore X14.here hx rfl (hb hby d1_17) rfl rfl (l' := #[.val (.int (6 : Int32)), .val (.ref b1), .val (.int (8 : Int32)), .val (.int (6 : Int32)), .val (.ref w_VAL6)]) rfl k) ?_
  refine own_st (T' := T14) (F' := (mkF m 21 #[.val (.int (6 : Int32)), .val (.ref b1), .val (.int (8 : Int32)), .val (.int (6 : Int32)), .val (.ref w_VAL6)] [(.ref w_VAL6)])) (fun t k => XS.aload X14.here hx rfl (hb hby d1_19) rfl rfl k) ?_
  obtain ⟨T16, X16, e16, st16⟩ := getF X14 hx hZ hown (host := "") (Or.inl (hw _ (List.mem_of_getElem? (i := 19) rfl))) Via.refl e14 (O_VAL6.ext O) (g := (mkF m 21 #[.val (.int (6 : Int32)), .val (.ref b1), .val (.int (8 : Int32)), .val (.int (6 : Int32)), .val (.ref w_VAL6)] [(.ref w_VAL6)])) rfl rfl (hb hby d1_21)
  refine own_st (T' := T16) (F' := (mkF m 24 #[.val (.int (6 : Int32)), .val (.ref b1), .val (.int (8 : Int32)), .val (.int (6 : Int32)), .val (.ref w_VAL6)] [(.int (6 : Int32))])) st16 ?_
  refine own_st (T' := T16) (F' := (mkF m 25 #[.val (.int (6 : Int32)), .val (.ref b1), .val (.int (8 : Int32)), .val (.int (6 : Int32)), .val (.ref w_VAL6)] [(.int (6 : Int32)), (.int (6 : Int32))])) (fun t k => XS.iloadN X16.here hx rfl (hb hby d1_24) rfl k) ?_
  refine own_st (T' := T16) (F' := (mkF m 28 #[.val (.int (6 : Int32)), .val (.ref b1), .val (.int (8 : Int32)), .val (.int (6 : Int32)), .val (.ref w_VAL6)] [])) (fun t k => XS.icmpNo X16.here hx rfl (hb hby d1_25) rfl (teq rfl).2 k) ?_
  refine own_st (T' := T16) (F' := (mkF m 30 #[.val (.int (6 : Int32)), .val (.ref b1), .val (.int (8 : Int32)), .val (.int (6 : Int32)), .val (.ref w_VAL6)] [(.ref w_VAL6)])) (fun t k => XS.aload X16.here hx rfl (hb hby d1_28) rfl rfl k) ?_
  exact own_retA X16 hx (t := (.object "com/example/turnleaf/turnleaf/token/KeyType")) Bd.returns rfl rfl (hb hby d1_30) hlk (by show QE Z (.ref w_VAL6) h0 _ T16.heap _; rw [e16]; exact ⟨rfl, N, E1⟩) (by decide) (by decide)
set_option maxRecDepth 65536 in
set_option maxHeartbeats 40000000 in
theorem rmX_6 (l : Launch) (Z : State) (a0 : Array Value) {w_VAL : Addr} {k_VAL : ClassId} {w_VAL0 : Addr} {w_VAL1 : Addr} {w_VAL2 : Addr} {w_VAL3 : Addr} {w_VAL4 : Addr} {w_VAL5 : Addr} {w_VAL6 : Addr} {w_VAL7 : Addr} (CX : Ctx Z a0 w_VAL k_VAL w_VAL0 w_VAL1 w_VAL2 w_VAL3 w_VAL4 w_VAL5 w_VAL6 w_VAL7) (ws : List Jvm.Cond)  (h0 : Heap) (O : Ext Z.heap h0)  :
    MetFree l (⟨"com/example/turnleaf/turnleaf/token/KeyTypeOfTagPinLaw", "expected", "(I)Lcom/example/turnleaf/turnleaf/token/KeyType;"⟩ : MethodName) (head1 (Jvm.Cond.code (⟨"com/example/turnleaf/turnleaf/token/KeyTypeOfTagPinLaw", "expected", "(I)Lcom/example/turnleaf/turnleaf/token/KeyType;"⟩ : MethodName) method_2_code 1 (some (.object "com/example/turnleaf/turnleaf/token/KeyType")) :: ws) ({ frames := 0, cells := 0, slots := 0, locals := 0 } : Room)) (fun a U => a = #[(.int (6 : Int32))] ∧ Z.Warmed39 U.vm ∧ U.heap = h0) (fun _ _ _ _ _ => True) (fun _ U o U' => ∃ v L, o = .returned v ∧ QP Z (.ref w_VAL6) h0 v U'.heap L ∧ FrameEnd U o U' L ({ frames := 0, cells := 0, slots := 0, locals := 0 } : Room).cells ({ frames := 0, cells := 0, slots := 0, locals := 0 } : Room).slots) := by
  refine MetFree.of_bodySF (plainFor_of_name pn_1) hisR ?_
  intro p e s m args below meth c s₁ Bd hml0 hP hK
  obtain ⟨rfl, hZ, hh⟩ := hP
  have CX0 := CX
  obtain ⟨hw, E_VAL0, E_VAL1, E_VAL2, E_VAL3, E_VAL4, E_VAL5, E_VAL6, E_VAL7, O_VAL0, O_VAL1, S_INTEGER, O_VAL2, O_VAL3, O_VAL4, S_DECIMAL, O_VAL5, O_VAL6, O_VAL7, S_NULL, S_SHORT, S_DOUBLE, S_LONG, S_TEXT, S_UUID, S_VAL, E_VAL, V_VAL, -⟩ := CX0
  have hx := Bd.exec
  have hby := Bd.bytes
  have hml : c.maxLocals = 1 := hml0
  have hown : s.vm.findClass "com/example/turnleaf/turnleaf/token/KeyTypeOfTagPinLaw" = some m.cls := findClass_of_methodNamed Bd.named
  have hnm := (name_of_methodNamed Bd.named Bd.method).1
  have hlk : meth.locks = false := BodyLoose.notSynchronized Bd
  have X0 : Stand p l e ({ frames := 0, cells := 0, slots := 0, locals := 0 } : Room) s m #[(.int (6 : Int32))] below meth c s₁ [] 0 0 := Stand.of_body Bd
  have e0 : s₁.heap = h0 := by rw [← hh, Bd.state]; rfl
  have N := Fr.nil Z.heap.size
  show own_Done p.tables e below (own_R (QP Z (.ref w_VAL6) h0) s 0 0) s₁ (entryFrame m #[(.int (6 : Int32))] 1)
  refine own_st (T' := s₁) (F' := (mkF m 0 #[.val (.int (6 : Int32))] [])) (fun t k => castTop (by first | rfl | (simp [entryFrame, mkF, argsToLocals, Value.category]; done)) k) ?_
  refine own_st (T' := s₁) (F' := (mkF m 1 #[.val (.int (6 : Int32))] [(.int (6 : Int32))])) (fun t k => XS.iloadN X0.here hx rfl (hb hby d3_0) rfl k) ?_
  refine own_st (T' := s₁) (F' := (mkF m 2 #[.val (.int (6 : Int32))] [(.int (1 : Int32)), (.int (6 : Int32))])) (fun t k => XS.iconst X0.here hx rfl (hb hby d3_1) k) ?_
  refine own_st (T' := s₁) (F' := (mkF m 9 #[.val (.int (6 : Int32))] [])) (fun t k => XS.icmpYes X0.here hx rfl (pc0 := 2) (pc' := 9) rfl (hb hby d3_2) rfl (feq (by decide : ¬ ((6 : Int32) = (1 : Int32)))).2 (by decide) (by decide) k) ?_
  refine own_st (T' := s₁) (F' := (mkF m 10 #[.val (.int (6 : Int32))] [(.int (6 : Int32))])) (fun t k => XS.iloadN X0.here hx rfl (hb hby d3_9) rfl k) ?_
  refine own_st (T' := s₁) (F' := (mkF m 11 #[.val (.int (6 : Int32))] [(.int (2 : Int32)), (.int (6 : Int32))])) (fun t k => XS.iconst X0.here hx rfl (hb hby d3_10) k) ?_
  refine own_st (T' := s₁) (F' := (mkF m 18 #[.val (.int (6 : Int32))] [])) (fun t k => XS.icmpYes X0.here hx rfl (pc0 := 11) (pc' := 18) rfl (hb hby d3_11) rfl (feq (by decide : ¬ ((6 : Int32) = (2 : Int32)))).2 (by decide) (by decide) k) ?_
  refine own_st (T' := s₁) (F' := (mkF m 19 #[.val (.int (6 : Int32))] [(.int (6 : Int32))])) (fun t k => XS.iloadN X0.here hx rfl (hb hby d3_18) rfl k) ?_
  refine own_st (T' := s₁) (F' := (mkF m 20 #[.val (.int (6 : Int32))] [(.int (3 : Int32)), (.int (6 : Int32))])) (fun t k => XS.iconst X0.here hx rfl (hb hby d3_19) k) ?_
  refine own_st (T' := s₁) (F' := (mkF m 27 #[.val (.int (6 : Int32))] [])) (fun t k => XS.icmpYes X0.here hx rfl (pc0 := 20) (pc' := 27) rfl (hb hby d3_20) rfl (feq (by decide : ¬ ((6 : Int32) = (3 : Int32)))).2 (by decide) (by decide) k) ?_
  refine own_st (T' := s₁) (F' := (mkF m 28 #[.val (.int (6 : Int32))] [(.int (6 : Int32))])) (fun t k => XS.iloadN X0.here hx rfl (hb hby d3_27) rfl k) ?_
  refine own_st (T' := s₁) (F' := (mkF m 29 #[.val (.int (6 : Int32))] [(.int (4 : Int32)), (.int (6 : Int32))])) (fun t k => XS.iconst X0.here hx rfl (hb hby d3_28) k) ?_
  refine own_st (T' := s₁) (F' := (mkF m 36 #[.val (.int (6 : Int32))] [])) (fun t k => XS.icmpYes X0.here hx rfl (pc0 := 29) (pc' := 36) rfl (hb hby d3_29) rfl (feq (by decide : ¬ ((6 : Int32) = (4 : Int32)))).2 (by decide) (by decide) k) ?_
  refine own_st (T' := s₁) (F' := (mkF m 37 #[.val (.int (6 : Int32))] [(.int (6 : Int32))])) (fun t k => XS.iloadN X0.here hx rfl (hb hby d3_36) rfl k) ?_
  refine own_st (T' := s₁) (F' := (mkF m 38 #[.val (.int (6 : Int32))] [(.int (5 : Int32)), (.int (6 : Int32))])) (fun t k => XS.iconst X0.here hx rfl (hb hby d3_37) k) ?_
  refine own_st (T' := s₁) (F' := (mkF m 45 #[.val (.int (6 : Int32))] [])) (fun t k => XS.icmpYes X0.here hx rfl (pc0 := 38) (pc' := 45) rfl (hb hby d3_38) rfl (feq (by decide : ¬ ((6 : Int32) = (5 : Int32)))).2 (by decide) (by decide) k) ?_
  refine own_st (T' := s₁) (F' := (mkF m 46 #[.val (.int (6 : Int32))] [(.int (6 : Int32))])) (fun t k => XS.iloadN X0.here hx rfl (hb hby d3_45) rfl k) ?_
  refine own_st (T' := s₁) (F' := (mkF m 48 #[.val (.int (6 : Int32))] [(.int (6 : Int32)), (.int (6 : Int32))])) (fun t k => XS.bipush X0.here hx rfl (hb hby d3_46) k) ?_
  refine own_st (T' := s₁) (F' := (mkF m 51 #[.val (.int (6 : Int32))] [])) (fun t k => XS.icmpNo X0.here hx rfl (hb hby d3_48) rfl (teq rfl).2 k) ?_
  obtain ⟨T1, X1, e1, st1⟩ := getS2 X0 hx hZ hown (host := "") (Or.inl (hw _ (List.mem_of_getElem? (i := 57) rfl))) Via.refl e0 (S_UUID.ext O) (g := (mkF m 51 #[.val (.int (6 : Int32))] [])) rfl (hb hby d3_51)
  refine own_st (T' := T1) (F' := (mkF m 54 #[.val (.int (6 : Int32))] [(.ref w_VAL6)])) st1 ?_
  exact own_retA X1 hx (t := (.object "com/example/turnleaf/turnleaf/token/KeyType")) Bd.returns rfl rfl (hb hby d3_54) hlk (by show QP Z (.ref w_VAL6) h0 _ T1.heap _; rw [e1]; exact ⟨rfl, N, rfl⟩) (by decide) (by decide)
set_option maxRecDepth 65536 in
set_option maxHeartbeats 40000000 in
theorem rmO_7 (l : Launch) (Z : State) (a0 : Array Value) {w_VAL : Addr} {k_VAL : ClassId} {w_VAL0 : Addr} {w_VAL1 : Addr} {w_VAL2 : Addr} {w_VAL3 : Addr} {w_VAL4 : Addr} {w_VAL5 : Addr} {w_VAL6 : Addr} {w_VAL7 : Addr} (CX : Ctx Z a0 w_VAL k_VAL w_VAL0 w_VAL1 w_VAL2 w_VAL3 w_VAL4 w_VAL5 w_VAL6 w_VAL7) (ws : List Jvm.Cond)  (h0 : Heap) (O : Ext Z.heap h0)  :
    MetFree l (⟨"com/example/turnleaf/turnleaf/token/KeyType", "ofTag", "(I)Lcom/example/turnleaf/turnleaf/token/KeyType;"⟩ : MethodName) (head1 (Jvm.Cond.code (⟨"com/example/turnleaf/turnleaf/token/KeyType", "ofTag", "(I)Lcom/example/turnleaf/turnleaf/token/KeyType;"⟩ : MethodName) prog_36_method_8_code 5 (some (.object "com/example/turnleaf/turnleaf/token/KeyType")) :: ws) ({ frames := 2, cells := 1, slots := 8, locals := 25 } : Room)) (fun a U => a = #[(.int (7 : Int32))] ∧ Z.Warmed39 U.vm ∧ U.heap = h0) (fun _ _ _ _ _ => True) (fun _ U o U' => ∃ v L, o = .returned v ∧ QE Z (.ref w_VAL7) h0 v U'.heap L ∧ FrameEnd U o U' L ({ frames := 2, cells := 1, slots := 8, locals := 25 } : Room).cells ({ frames := 2, cells := 1, slots := 8, locals := 25 } : Room).slots) := by
  refine MetFree.of_bodySF (plainFor_of_name pn_0) hisR ?_
  intro p e s m args below meth c s₁ Bd hml0 hP hK
  obtain ⟨rfl, hZ, hh⟩ := hP
  have CX0 := CX
  obtain ⟨hw, E_VAL0, E_VAL1, E_VAL2, E_VAL3, E_VAL4, E_VAL5, E_VAL6, E_VAL7, O_VAL0, O_VAL1, S_INTEGER, O_VAL2, O_VAL3, O_VAL4, S_DECIMAL, O_VAL5, O_VAL6, O_VAL7, S_NULL, S_SHORT, S_DOUBLE, S_LONG, S_TEXT, S_UUID, S_VAL, E_VAL, V_VAL, -⟩ := CX0
  have hx := Bd.exec
  have hby := Bd.bytes
  have hml : c.maxLocals = 5 := hml0
  have hown : s.vm.findClass "com/example/turnleaf/turnleaf/token/KeyType" = some m.cls := findClass_of_methodNamed Bd.named
  have hnm := (name_of_methodNamed Bd.named Bd.method).1
  have hlk : meth.locks = false := BodyLoose.notSynchronized Bd
  have X0 : Stand p l e ({ frames := 2, cells := 1, slots := 8, locals := 25 } : Room) s m #[(.int (7 : Int32))] below meth c s₁ [] 0 0 := Stand.of_body Bd
  have e0 : s₁.heap = h0 := by rw [← hh, Bd.state]; rfl
  have N := Fr.nil Z.heap.size
  show own_Done p.tables e below (own_R (QE Z (.ref w_VAL7) h0) s 1 8) s₁ (entryFrame m #[(.int (7 : Int32))] 5)
  refine own_st (T' := s₁) (F' := (mkF m 0 #[.val (.int (7 : Int32)), .unset, .unset, .unset, .unset] [])) (fun t k => castTop (by first | rfl | (simp [entryFrame, mkF, argsToLocals, Value.category]; done)) k) ?_
  obtain ⟨v1, _, ⟨T1, L1, k1, n1⟩, -, X1, ⟨Lc1, hQ1, l1, y1, z1⟩, st1⟩ := Jvm.LawKit.callS X0 hx (y := (⟨"com/example/turnleaf/turnleaf/token/KeyType", "values", "()[Lcom/example/turnleaf/turnleaf/token/KeyType;"⟩ : MethodName)) hown (mvT hZ (hw _ (List.mem_of_getElem? (i := 4) rfl))) (mvT hZ (hw _ (List.mem_of_getElem? (i := 5) rfl))) (mvT hZ (hw _ (List.mem_of_getElem? (i := 2) rfl))) (mvT hZ (hw _ (List.mem_of_getElem? (i := 6) rfl))) (by decide) (backOf (W := 0) (rm2 l Z a0 CX [] h0 O) hZ (hw _ (List.mem_of_getElem? (i := 6) rfl)) (hw _ (List.mem_of_getElem? (i := 2) rfl)) (by decide) (by decide)) (g := (mkF m 0 #[.val (.int (7 : Int32)), .unset, .unset, .unset, .unset] [])) rfl (by rw [hml]; rfl) (argsL := []) (rest := []) (lenOf pd_0 rfl) rfl (by show 2 * 0 + _ ≤ _; exact Nat.le_of_eq rfl) (hb hby d1_0) (fun _ _ => ⟨rfl, e0, (by decide : 0 + 1 ≤ _), (by decide : 0 + 8 ≤ _)⟩)
  dsimp only [Pt.U, Pt.locs, Pt.cells, Pt.slots] at X1 l1 y1 z1 st1 hQ1
  subst l1 y1 z1
  obtain ⟨rfl, N1q, E1, V1⟩ := hQ1
  have N := Fr.app N N1q
  obtain ⟨b1, g1⟩ : ∃ z, z = h0.size := ⟨_, rfl⟩
  rw [← g1] at V1 st1
  have g_b1 : Z.heap.size ≤ b1 := Nat.le_trans O.1 (Nat.le_of_eq g1.symm)
  have O := own_ext_trans O E1
  have V_b1 := V1
  refine own_st (T' := T1) (F' := (mkF m 3 #[.val (.int (7 : Int32)), .unset, .unset, .unset, .unset] [(.ref b1)])) st1 ?_
  refine own_st (T' := T1) (F' := (mkF m 4 #[.val (.int (7 : Int32)), .val (.ref b1), .unset, .unset, .unset] [])) (fun t k => XS.astoreN X1.here hx rfl (hb hby d1_3) rfl rfl (l' := #[.val (.int (7 : Int32)), .val (.ref b1), .unset, .unset, .unset]) rfl k) ?_
  refine own_st (T' := T1) (F' := (mkF m 5 #[.val (.int (7 : Int32)), .val (.ref b1), .unset, .unset, .unset] [(.ref b1)])) (fun t k => XS.aloadN X1.here hx rfl (hb hby d1_4) rfl rfl k) ?_
  have V2 := V_b1
  obtain ⟨cl2, Ar2, qa2, Sa2, Na2, Ha2, Ga2⟩ := V2
  refine own_st (T' := T1) (F' := (mkF m 6 #[.val (.int (7 : Int32)), .val (.ref b1), .unset, .unset, .unset] [(.int (8 : Int32))])) (fun t k => X1.arraylength hx Ar2.1 (State.isArrayOf_alike hZ.alike Ar2.2.1) (g := (mkF m 5 #[.val (.int (7 : Int32)), .val (.ref b1), .unset, .unset, .unset] [(.ref b1)])) rfl rfl (hb hby d1_5) _ (by rw [(len_of Sa2 Na2)]; exact k)) ?_
  refine own_st (T' := T1) (F' := (mkF m 7 #[.val (.int (7 : Int32)), .val (.ref b1), .val (.int (8 : Int32)), .unset, .unset] [])) (fun t k => XS.istoreN X1.here hx rfl (hb hby d1_6) rfl (l' := #[.val (.int (7 : Int32)), .val (.ref b1), .val (.int (8 : Int32)), .unset, .unset]) rfl k) ?_
  refine own_st (T' := T1) (F' := (mkF m 8 #[.val (.int (7 : Int32)), .val (.ref b1), .val (.int (8 : Int32)), .unset, .unset] [(.int (0 : Int32))])) (fun t k => XS.iconst X1.here hx rfl (hb hby d1_7) k) ?_
  refine own_st (T' := T1) (F' := (mkF m 9 #[.val (.int (7 : Int32)), .val (.ref b1), .val (.int (8 : Int32)), .val (.int (0 : Int32)), .unset] [])) (fun t k => XS.istoreN X1.here hx rfl (hb hby d1_8) rfl (l' := #[.val (.int (7 : Int32)), .val (.ref b1), .val (.int (8 : Int32)), .val (.int (0 : Int32)), .unset]) rfl k) ?_
  refine own_st (T' := T1) (F' := (mkF m 10 #[.val (.int (7 : Int32)), .val (.ref b1), .val (.int (8 : Int32)), .val (.int (0 : Int32)), .unset] [(.int (0 : Int32))])) (fun t k => XS.iloadN X1.here hx rfl (hb hby d1_9) rfl k) ?_
  refine own_st (T' := T1) (F' := (mkF m 11 #[.val (.int (7 : Int32)), .val (.ref b1), .val (.int (8 : Int32)), .val (.int (0 : Int32)), .unset] [(.int (8 : Int32)), (.int (0 : Int32))])) (fun t k => XS.iloadN X1.here hx rfl (hb hby d1_10) rfl k) ?_
  refine own_st (T' := T1) (F' := (mkF m 14 #[.val (.int (7 : Int32)), .val (.ref b1), .val (.int (8 : Int32)), .val (.int (0 : Int32)), .unset] [])) (fun t k => XS.icmpNo X1.here hx rfl (hb hby d1_11) rfl (tlt (by decide : ((0 : Int32) < (8 : Int32)))).2.1 k) ?_
  refine own_st (T' := T1) (F' := (mkF m 15 #[.val (.int (7 : Int32)), .val (.ref b1), .val (.int (8 : Int32)), .val (.int (0 : Int32)), .unset] [(.ref b1)])) (fun t k => XS.aloadN X1.here hx rfl (hb hby d1_14) rfl rfl k) ?_
  refine own_st (T' := T1) (F' := (mkF m 16 #[.val (.int (7 : Int32)), .val (.ref b1), .val (.int (8 : Int32)), .val (.int (0 : Int32)), .unset] [(.int (0 : Int32)), (.ref b1)])) (fun t k => XS.iloadN X1.here hx rfl (hb hby d1_15) rfl k) ?_
  have V3 := V_b1
  obtain ⟨cl3, Ar3, qa3, Sa3, Na3, Ha3, Ga3⟩ := V3
  have hin3 : ¬ ((0 : Int32) < 0 ∨ cl3.slots.size ≤ ((0 : Int32)).toNatClampNeg) := inb_of Sa3 ⟨by decide, by decide⟩
  have hat3 : cl3.slots[((0 : Int32)).toNatClampNeg]? = some (.ref w_VAL0) := Has.at Ha3 hin3 rfl
  refine own_st (T' := T1) (F' := (mkF m 17 #[.val (.int (7 : Int32)), .val (.ref b1), .val (.int (8 : Int32)), .val (.int (0 : Int32)), .unset] [(.ref w_VAL0)])) (fun t k => X1.aaload hx (j := (0 : Int32)) (v := (.ref w_VAL0)) Ar3.1 (State.isArrayOf_alike hZ.alike Ar3.2.1) rfl Ar3.2.2 hin3 hat3 (g := (mkF m 16 #[.val (.int (7 : Int32)), .val (.ref b1), .val (.int (8 : Int32)), .val (.int (0 : Int32)), .unset] [(.int (0 : Int32)), (.ref b1)])) rfl rfl (hb hby d1_16) _ k) ?_
  refine own_st (T' := T1) (F' := (mkF m 19 #[.val (.int (7 : Int32)), .val (.ref b1), .val (.int (8 : Int32)), .val (.int (0 : Int32)), .val (.ref w_VAL0)] [])) (fun t k => XS.astore X1.here hx rfl (hb hby d1_17) rfl rfl (l' := #[.val (.int (7 : Int32)), .val (.ref b1), .val (.int (8 : Int32)), .val (.int (0 : Int32)), .val (.ref w_VAL0)]) rfl k) ?_
  refine own_st (T' := T1) (F' := (mkF m 21 #[.val (.int (7 : Int32)), .val (.ref b1), .val (.int (8 : Int32)), .val (.int (0 : Int32)), .val (.ref w_VAL0)] [(.ref w_VAL0)])) (fun t k => XS.aload X1.here hx rfl (hb hby d1_19) rfl rfl k) ?_
  obtain ⟨T4, X4, e4, st4⟩ := getF X1 hx hZ hown (host := "") (Or.inl (hw _ (List.mem_of_getElem? (i := 19) rfl))) Via.refl rfl (O_VAL0.ext O) (g := (mkF m 21 #[.val (.int (7 : Int32)), .val (.ref b1), .val (.int (8 : Int32)), .val (.int (0 : Int32)), .val (.ref w_VAL0)] [(.ref w_VAL0)])) rfl rfl (hb hby d1_21)
  refine own_st (T' := T4) (F' := (mkF m 24 #[.val (.int (7 : Int32)), .val (.ref b1), .val (.int (8 : Int32)), .val (.int (0 : Int32)), .val (.ref w_VAL0)] [(.int (8 : Int32))])) st4 ?_
  refine own_st (T' := T4) (F' := (mkF m 25 #[.val (.int (7 : Int32)), .val (.ref b1), .val (.int (8 : Int32)), .val (.int (0 : Int32)), .val (.ref w_VAL0)] [(.int (7 : Int32)), (.int (8 : Int32))])) (fun t k => XS.iloadN X4.here hx rfl (hb hby d1_24) rfl k) ?_
  refine own_st (T' := T4) (F' := (mkF m 31 #[.val (.int (7 : Int32)), .val (.ref b1), .val (.int (8 : Int32)), .val (.int (0 : Int32)), .val (.ref w_VAL0)] [])) (fun t k => XS.icmpYes X4.here hx rfl (pc0 := 25) (pc' := 31) rfl (hb hby d1_25) rfl (feq (by decide : ¬ ((8 : Int32) = (7 : Int32)))).2 (by decide) (by decide) k) ?_
  refine own_st (T' := T4) (F' := (mkF m 34 #[.val (.int (7 : Int32)), .val (.ref b1), .val (.int (8 : Int32)), .val (.int (1 : Int32)), .val (.ref w_VAL0)] [])) (fun t k => XS.iinc X4.here hx rfl (hb hby d1_31) rfl (l' := #[.val (.int (7 : Int32)), .val (.ref b1), .val (.int (8 : Int32)), .val (.int (1 : Int32)), .val (.ref w_VAL0)]) rfl k) ?_
  refine own_st (T' := T4) (F' := (mkF m 9 #[.val (.int (7 : Int32)), .val (.ref b1), .val (.int (8 : Int32)), .val (.int (1 : Int32)), .val (.ref w_VAL0)] [])) (fun t k => XS.goto X4.here hx rfl (pc0 := 34) (pc' := 9) rfl (hb hby d1_34) (by decide) (by decide) k) ?_
  refine own_st (T' := T4) (F' := (mkF m 10 #[.val (.int (7 : Int32)), .val (.ref b1), .val (.int (8 : Int32)), .val (.int (1 : Int32)), .val (.ref w_VAL0)] [(.int (1 : Int32))])) (fun t k => XS.iloadN X4.here hx rfl (hb hby d1_9) rfl k) ?_
  refine own_st (T' := T4) (F' := (mkF m 11 #[.val (.int (7 : Int32)), .val (.ref b1), .val (.int (8 : Int32)), .val (.int (1 : Int32)), .val (.ref w_VAL0)] [(.int (8 : Int32)), (.int (1 : Int32))])) (fun t k => XS.iloadN X4.here hx rfl (hb hby d1_10) rfl k) ?_
  refine own_st (T' := T4) (F' := (mkF m 14 #[.val (.int (7 : Int32)), .val (.ref b1), .val (.int (8 : Int32)), .val (.int (1 : Int32)), .val (.ref w_VAL0)] [])) (fun t k => XS.icmpNo X4.here hx rfl (hb hby d1_11) rfl (tlt (by decide : ((1 : Int32) < (8 : Int32)))).2.1 k) ?_
  refine own_st (T' := T4) (F' := (mkF m 15 #[.val (.int (7 : Int32)), .val (.ref b1), .val (.int (8 : Int32)), .val (.int (1 : Int32)), .val (.ref w_VAL0)] [(.ref b1)])) (fun t k => XS.aloadN X4.here hx rfl (hb hby d1_14) rfl rfl k) ?_
  refine own_st (T' := T4) (F' := (mkF m 16 #[.val (.int (7 : Int32)), .val (.ref b1), .val (.int (8 : Int32)), .val (.int (1 : Int32)), .val (.ref w_VAL0)] [(.int (1 : Int32)), (.ref b1)])) (fun t k => XS.iloadN X4.here hx rfl (hb hby d1_15) rfl k) ?_
  have V5 := V_b1
  obtain ⟨cl5, Ar5, qa5, Sa5, Na5, Ha5, Ga5⟩ := V5
  have hin5 : ¬ ((1 : Int32) < 0 ∨ cl5.slots.size ≤ ((1 : Int32)).toNatClampNeg) := inb_of Sa5 ⟨by decide, by decide⟩
  have hat5 : cl5.slots[((1 : Int32)).toNatClampNeg]? = some (.ref w_VAL1) := Has.at Ha5 hin5 rfl
  refine own_st (T' := T4) (F' := (mkF m 17 #[.val (.int (7 : Int32)), .val (.ref b1), .val (.int (8 : Int32)), .val (.int (1 : Int32)), .val (.ref w_VAL0)] [(.ref w_VAL1)])) (fun t k => X4.aaload hx (j := (1 : Int32)) (v := (.ref w_VAL1)) (by rw [e4]; exact Ar5.1) (State.isArrayOf_alike hZ.alike Ar5.2.1) rfl Ar5.2.2 hin5 hat5 (g := (mkF m 16 #[.val (.int (7 : Int32)), .val (.ref b1), .val (.int (8 : Int32)), .val (.int (1 : Int32)), .val (.ref w_VAL0)] [(.int (1 : Int32)), (.ref b1)])) rfl rfl (hb hby d1_16) _ k) ?_
  refine own_st (T' := T4) (F' := (mkF m 19 #[.val (.int (7 : Int32)), .val (.ref b1), .val (.int (8 : Int32)), .val (.int (1 : Int32)), .val (.ref w_VAL1)] [])) (fun t k => XS.astore X4.here hx rfl (hb hby d1_17) rfl rfl (l' := #[.val (.int (7 : Int32)), .val (.ref b1), .val (.int (8 : Int32)), .val (.int (1 : Int32)), .val (.ref w_VAL1)]) rfl k) ?_
  refine own_st (T' := T4) (F' := (mkF m 21 #[.val (.int (7 : Int32)), .val (.ref b1), .val (.int (8 : Int32)), .val (.int (1 : Int32)), .val (.ref w_VAL1)] [(.ref w_VAL1)])) (fun t k => XS.aload X4.here hx rfl (hb hby d1_19) rfl rfl k) ?_
  obtain ⟨T6, X6, e6, st6⟩ := getF X4 hx hZ hown (host := "") (Or.inl (hw _ (List.mem_of_getElem? (i := 19) rfl))) Via.refl e4 (O_VAL1.ext O) (g := (mkF m 21 #[.val (.int (7 : Int32)), .val (.ref b1), .val (.int (8 : Int32)), .val (.int (1 : Int32)), .val (.ref w_VAL1)] [(.ref w_VAL1)])) rfl rfl (hb hby d1_21)
  refine own_st (T' := T6) (F' := (mkF m 24 #[.val (.int (7 : Int32)), .val (.ref b1), .val (.int (8 : Int32)), .val (.int (1 : Int32)), .val (.ref w_VAL1)] [(.int (1 : Int32))])) st6 ?_
  refine own_st (T' := T6) (F' := (mkF m 25 #[.val (.int (7 : Int32)), .val (.ref b1), .val (.int (8 : Int32)), .val (.int (1 : Int32)), .val (.ref w_VAL1)] [(.int (7 : Int32)), (.int (1 : Int32))])) (fun t k => XS.iloadN X6.here hx rfl (hb hby d1_24) rfl k) ?_
  refine own_st (T' := T6) (F' := (mkF m 31 #[.val (.int (7 : Int32)), .val (.ref b1), .val (.int (8 : Int32)), .val (.int (1 : Int32)), .val (.ref w_VAL1)] [])) (fun t k => XS.icmpYes X6.here hx rfl (pc0 := 25) (pc' := 31) rfl (hb hby d1_25) rfl (feq (by decide : ¬ ((1 : Int32) = (7 : Int32)))).2 (by decide) (by decide) k) ?_
  refine own_st (T' := T6) (F' := (mkF m 34 #[.val (.int (7 : Int32)), .val (.ref b1), .val (.int (8 : Int32)), .val (.int (2 : Int32)), .val (.ref w_VAL1)] [])) (fun t k => XS.iinc X6.here hx rfl (hb hby d1_31) rfl (l' := #[.val (.int (7 : Int32)), .val (.ref b1), .val (.int (8 : Int32)), .val (.int (2 : Int32)), .val (.ref w_VAL1)]) rfl k) ?_
  refine own_st (T' := T6) (F' := (mkF m 9 #[.val (.int (7 : Int32)), .val (.ref b1), .val (.int (8 : Int32)), .val (.int (2 : Int32)), .val (.ref w_VAL1)] [])) (fun t k => XS.goto X6.here hx rfl (pc0 := 34) (pc' := 9) rfl (hb hby d1_34) (by decide) (by decide) k) ?_
  refine own_st (T' := T6) (F' := (mkF m 10 #[.val (.int (7 : Int32)), .val (.ref b1), .val (.int (8 : Int32)), .val (.int (2 : Int32)), .val (.ref w_VAL1)] [(.int (2 : Int32))])) (fun t k => XS.iloadN X6.here hx rfl (hb hby d1_9) rfl k) ?_
  refine own_st (T' := T6) (F' := (mkF m 11 #[.val (.int (7 : Int32)), .val (.ref b1), .val (.int (8 : Int32)), .val (.int (2 : Int32)), .val (.ref w_VAL1)] [(.int (8 : Int32)), (.int (2 : Int32))])) (fun t k => XS.iloadN X6.here hx rfl (hb hby d1_10) rfl k) ?_
  refine own_st (T' := T6) (F' := (mkF m 14 #[.val (.int (7 : Int32)), .val (.ref b1), .val (.int (8 : Int32)), .val (.int (2 : Int32)), .val (.ref w_VAL1)] [])) (fun t k => XS.icmpNo X6.here hx rfl (hb hby d1_11) rfl (tlt (by decide : ((2 : Int32) < (8 : Int32)))).2.1 k) ?_
  refine own_st (T' := T6) (F' := (mkF m 15 #[.val (.int (7 : Int32)), .val (.ref b1), .val (.int (8 : Int32)), .val (.int (2 : Int32)), .val (.ref w_VAL1)] [(.ref b1)])) (fun t k => XS.aloadN X6.here hx rfl (hb hby d1_14) rfl rfl k) ?_
  refine own_st (T' := T6) (F' := (mkF m 16 #[.val (.int (7 : Int32)), .val (.ref b1), .val (.int (8 : Int32)), .val (.int (2 : Int32)), .val (.ref w_VAL1)] [(.int (2 : Int32)), (.ref b1)])) (fun t k => XS.iloadN X6.here hx rfl (hb hby d1_15) rfl k) ?_
  have V7 := V_b1
  obtain ⟨cl7, Ar7, qa7, Sa7, Na7, Ha7, Ga7⟩ := V7
  have hin7 : ¬ ((2 : Int32) < 0 ∨ cl7.slots.size ≤ ((2 : Int32)).toNatClampNeg) := inb_of Sa7 ⟨by decide, by decide⟩
  have hat7 : cl7.slots[((2 : Int32)).toNatClampNeg]? = some (.ref w_VAL2) := Has.at Ha7 hin7 rfl
  refine own_st (T' := T6) (F' := (mkF m 17 #[.val (.int (7 : Int32)), .val (.ref b1), .val (.int (8 : Int32)), .val (.int (2 : Int32)), .val (.ref w_VAL1)] [(.ref w_VAL2)])) (fun t k => X6.aaload hx (j := (2 : Int32)) (v := (.ref w_VAL2)) (by rw [e6]; exact Ar7.1) (State.isArrayOf_alike hZ.alike Ar7.2.1) rfl Ar7.2.2 hin7 hat7 (g := (mkF m 16 #[.val (.int (7 : Int32)), .val (.ref b1), .val (.int (8 : Int32)), .val (.int (2 : Int32)), .val (.ref w_VAL1)] [(.int (2 : Int32)), (.ref b1)])) rfl rfl (hb hby d1_16) _ k) ?_
  refine own_st (T' := T6) (F' := (mkF m 19 #[.val (.int (7 : Int32)), .val (.ref b1), .val (.int (8 : Int32)), .val (.int (2 : Int32)), .val (.ref w_VAL2)] [])) (fun t k => XS.astore X6.here hx rfl (hb hby d1_17) rfl rfl (l' := #[.val (.int (7 : Int32)), .val (.ref b1), .val (.int (8 : Int32)), .val (.int (2 : Int32)), .val (.ref w_VAL2)]) rfl k) ?_
  refine own_st (T' := T6) (F' := (mkF m 21 #[.val (.int (7 : Int32)), .val (.ref b1), .val (.int (8 : Int32)), .val (.int (2 : Int32)), .val (.ref w_VAL2)] [(.ref w_VAL2)])) (fun t k => XS.aload X6.here hx rfl (hb hby d1_19) rfl rfl k) ?_
  obtain ⟨T8, X8, e8, st8⟩ := getF X6 hx hZ hown (host := "") (Or.inl (hw _ (List.mem_of_getElem? (i := 19) rfl))) Via.refl e6 (O_VAL2.ext O) (g := (mkF m 21 #[.val (.int (7 : Int32)), .val (.ref b1), .val (.int (8 : Int32)), .val (.int (2 : Int32)), .val (.ref w_VAL2)] [(.ref w_VAL2)])) rfl rfl (hb hby d1_21)
  refine own_st (T' := T8) (F' := (mkF m 24 #[.val (.int (7 : Int32)), .val (.ref b1), .val (.int (8 : Int32)), .val (.int (2 : Int32)), .val (.ref w_VAL2)] [(.int (2 : Int32))])) st8 ?_
  refine own_st (T' := T8) (F' := (mkF m 25 #[.val (.int (7 : Int32)), .val (.ref b1), .val (.int (8 : Int32)), .val (.int (2 : Int32)), .val (.ref w_VAL2)] [(.int (7 : Int32)), (.int (2 : Int32))])) (fun t k => XS.iloadN X8.here hx rfl (hb hby d1_24) rfl k) ?_
  refine own_st (T' := T8) (F' := (mkF m 31 #[.val (.int (7 : Int32)), .val (.ref b1), .val (.int (8 : Int32)), .val (.int (2 : Int32)), .val (.ref w_VAL2)] [])) (fun t k => XS.icmpYes X8.here hx rfl (pc0 := 25) (pc' := 31) rfl (hb hby d1_25) rfl (feq (by decide : ¬ ((2 : Int32) = (7 : Int32)))).2 (by decide) (by decide) k) ?_
  refine own_st (T' := T8) (F' := (mkF m 34 #[.val (.int (7 : Int32)), .val (.ref b1), .val (.int (8 : Int32)), .val (.int (3 : Int32)), .val (.ref w_VAL2)] [])) (fun t k => XS.iinc X8.here hx rfl (hb hby d1_31) rfl (l' := #[.val (.int (7 : Int32)), .val (.ref b1), .val (.int (8 : Int32)), .val (.int (3 : Int32)), .val (.ref w_VAL2)]) rfl k) ?_
  refine own_st (T' := T8) (F' := (mkF m 9 #[.val (.int (7 : Int32)), .val (.ref b1), .val (.int (8 : Int32)), .val (.int (3 : Int32)), .val (.ref w_VAL2)] [])) (fun t k => XS.goto X8.here hx rfl (pc0 := 34) (pc' := 9) rfl (hb hby d1_34) (by decide) (by decide) k) ?_
  refine own_st (T' := T8) (F' := (mkF m 10 #[.val (.int (7 : Int32)), .val (.ref b1), .val (.int (8 : Int32)), .val (.int (3 : Int32)), .val (.ref w_VAL2)] [(.int (3 : Int32))])) (fun t k => XS.iloadN X8.here hx rfl (hb hby d1_9) rfl k) ?_
  refine own_st (T' := T8) (F' := (mkF m 11 #[.val (.int (7 : Int32)), .val (.ref b1), .val (.int (8 : Int32)), .val (.int (3 : Int32)), .val (.ref w_VAL2)] [(.int (8 : Int32)), (.int (3 : Int32))])) (fun t k => XS.iloadN X8.here hx rfl (hb hby d1_10) rfl k) ?_
  refine own_st (T' := T8) (F' := (mkF m 14 #[.val (.int (7 : Int32)), .val (.ref b1), .val (.int (8 : Int32)), .val (.int (3 : Int32)), .val (.ref w_VAL2)] [])) (fun t k => XS.icmpNo X8.here hx rfl (hb hby d1_11) rfl (tlt (by decide : ((3 : Int32) < (8 : Int32)))).2.1 k) ?_
  refine own_st (T' := T8) (F' := (mkF m 15 #[.val (.int (7 : Int32)), .val (.ref b1), .val (.int (8 : Int32)), .val (.int (3 : Int32)), .val (.ref w_VAL2)] [(.ref b1)])) (fun t k => XS.aloadN X8.here hx rfl (hb hby d1_14) rfl rfl k) ?_
  refine own_st (T' := T8) (F' := (mkF m 16 #[.val (.int (7 : Int32)), .val (.ref b1), .val (.int (8 : Int32)), .val (.int (3 : Int32)), .val (.ref w_VAL2)] [(.int (3 : Int32)), (.ref b1)])) (fun t k => XS.iloadN X8.here hx rfl (hb hby d1_15) rfl k) ?_
  have V9 := V_b1
  obtain ⟨cl9, Ar9, qa9, Sa9, Na9, Ha9, Ga9⟩ := V9
  have hin9 : ¬ ((3 : Int32) < 0 ∨ cl9.slots.size ≤ ((3 : Int32)).toNatClampNeg) := inb_of Sa9 ⟨by decide, by decide⟩
  have hat9 : cl9.slots[((3 : Int32)).toNatClampNeg]? = some (.ref w_VAL3) := Has.at Ha9 hin9 rfl
  refine own_st (T' := T8) (F' := (mkF m 17 #[.val (.int (7 : Int32)), .val (.ref b1), .val (.int (8 : Int32)), .val (.int (3 : Int32)), .val (.ref w_VAL2)] [(.ref w_VAL3)])) (fun t k => X8.aaload hx (j := (3 : Int32)) (v := (.ref w_VAL3)) (by rw [e8]; exact Ar9.1) (State.isArrayOf_alike hZ.alike Ar9.2.1) rfl Ar9.2.2 hin9 hat9 (g := (mkF m 16 #[.val (.int (7 : Int32)), .val (.ref b1), .val (.int (8 : Int32)), .val (.int (3 : Int32)), .val (.ref w_VAL2)] [(.int (3 : Int32)), (.ref b1)])) rfl rfl (hb hby d1_16) _ k) ?_
  refine own_st (T' := T8) (F' := (mkF m 19 #[.val (.int (7 : Int32)), .val (.ref b1), .val (.int (8 : Int32)), .val (.int (3 : Int32)), .val (.ref w_VAL3)] [])) (fun t k => XS.astore X8.here hx rfl (hb hby d1_17) rfl rfl (l' := #[.val (.int (7 : Int32)), .val (.ref b1), .val (.int (8 : Int32)), .val (.int (3 : Int32)), .val (.ref w_VAL3)]) rfl k) ?_
  refine own_st (T' := T8) (F' := (mkF m 21 #[.val (.int (7 : Int32)), .val (.ref b1), .val (.int (8 : Int32)), .val (.int (3 : Int32)), .val (.ref w_VAL3)] [(.ref w_VAL3)])) (fun t k => XS.aload X8.here hx rfl (hb hby d1_19) rfl rfl k) ?_
  obtain ⟨T10, X10, e10, st10⟩ := getF X8 hx hZ hown (host := "") (Or.inl (hw _ (List.mem_of_getElem? (i := 19) rfl))) Via.refl e8 (O_VAL3.ext O) (g := (mkF m 21 #[.val (.int (7 : Int32)), .val (.ref b1), .val (.int (8 : Int32)), .val (.int (3 : Int32)), .val (.ref w_VAL3)] [(.ref w_VAL3)])) rfl rfl (hb hby d1_21)
  refine own_st (T' := T10) (F' := (mkF m 24 #[.val (.int (7 : Int32)), .val (.ref b1), .val (.int (8 : Int32)), .val (.int (3 : Int32)), .val (.ref w_VAL3)] [(.int (3 : Int32))])) st10 ?_
  refine own_st (T' := T10) (F' := (mkF m 25 #[.val (.int (7 : Int32)), .val (.ref b1), .val (.int (8 : Int32)), .val (.int (3 : Int32)), .val (.ref w_VAL3)] [(.int (7 : Int32)), (.int (3 : Int32))])) (fun t k => XS.iloadN X10.here hx rfl (hb hby d1_24) rfl k) ?_
  refine own_st (T' := T10) (F' := (mkF m 31 #[.val (.int (7 : Int32)), .val (.ref b1), .val (.int (8 : Int32)), .val (.int (3 : Int32)), .val (.ref w_VAL3)] [])) (fun t k => XS.icmpYes X10.here hx rfl (pc0 := 25) (pc' := 31) rfl (hb hby d1_25) rfl (feq (by decide : ¬ ((3 : Int32) = (7 : Int32)))).2 (by decide) (by decide) k) ?_
  refine own_st (T' := T10) (F' := (mkF m 34 #[.val (.int (7 : Int32)), .val (.ref b1), .val (.int (8 : Int32)), .val (.int (4 : Int32)), .val (.ref w_VAL3)] [])) (fun t k => XS.iinc X10.here hx rfl (hb hby d1_31) rfl (l' := #[.val (.int (7 : Int32)), .val (.ref b1), .val (.int (8 : Int32)), .val (.int (4 : Int32)), .val (.ref w_VAL3)]) rfl k) ?_
  refine own_st (T' := T10) (F' := (mkF m 9 #[.val (.int (7 : Int32)), .val (.ref b1), .val (.int (8 : Int32)), .val (.int (4 : Int32)), .val (.ref w_VAL3)] [])) (fun t k => XS.goto X10.here hx rfl (pc0 := 34) (pc' := 9) rfl (hb hby d1_34) (by decide) (by decide) k) ?_
  refine own_st (T' := T10) (F' := (mkF m 10 #[.val (.int (7 : Int32)), .val (.ref b1), .val (.int (8 : Int32)), .val (.int (4 : Int32)), .val (.ref w_VAL3)] [(.int (4 : Int32))])) (fun t k => XS.iloadN X10.here hx rfl (hb hby d1_9) rfl k) ?_
  refine own_st (T' := T10) (F' := (mkF m 11 #[.val (.int (7 : Int32)), .val (.ref b1), .val (.int (8 : Int32)), .val (.int (4 : Int32)), .val (.ref w_VAL3)] [(.int (8 : Int32)), (.int (4 : Int32))])) (fun t k => XS.iloadN X10.here hx rfl (hb hby d1_10) rfl k) ?_
  refine own_st (T' := T10) (F' := (mkF m 14 #[.val (.int (7 : Int32)), .val (.ref b1), .val (.int (8 : Int32)), .val (.int (4 : Int32)), .val (.ref w_VAL3)] [])) (fun t k => XS.icmpNo X10.here hx rfl (hb hby d1_11) rfl (tlt (by decide : ((4 : Int32) < (8 : Int32)))).2.1 k) ?_
  refine own_st (T' := T10) (F' := (mkF m 15 #[.val (.int (7 : Int32)), .val (.ref b1), .val (.int (8 : Int32)), .val (.int (4 : Int32)), .val (.ref w_VAL3)] [(.ref b1)])) (fun t k => XS.aloadN X10.here hx rfl (hb hby d1_14) rfl rfl k) ?_
  refine own_st (T' := T10) (F' := (mkF m 16 #[.val (.int (7 : Int32)), .val (.ref b1), .val (.int (8 : Int32)), .val (.int (4 : Int32)), .val (.ref w_VAL3)] [(.int (4 : Int32)), (.ref b1)])) (fun t k => XS.iloadN X10.here hx rfl (hb hby d1_15) rfl k) ?_
  have V11 := V_b1
  obtain ⟨cl11, Ar11, qa11, Sa11, Na11, Ha11, Ga11⟩ := V11
  have hin11 : ¬ ((4 : Int32) < 0 ∨ cl11.slots.size ≤ ((4 : Int32)).toNatClampNeg) := inb_of Sa11 ⟨by decide, by decide⟩
  have hat11 : cl11.slots[((4 : Int32)).toNatClampNeg]? = some (.ref w_VAL4) := Has.at Ha11 hin11 rfl
  refine own_st (T' := T10) (F' := (mkF m 17 #[.val (.int (7 : Int32)), .val (.ref b1), .val (.int (8 : Int32)), .val (.int (4 : Int32)), .val (.ref w_VAL3)] [(.ref w_VAL4)])) (fun t k => X10.aaload hx (j := (4 : Int32)) (v := (.ref w_VAL4)) (by rw [e10]; exact Ar11.1) (State.isArrayOf_alike hZ.alike Ar11.2.1) rfl Ar11.2.2 hin11 hat11 (g := (mkF m 16 #[.val (.int (7 : Int32)), .val (.ref b1), .val (.int (8 : Int32)), .val (.int (4 : Int32)), .val (.ref w_VAL3)] [(.int (4 : Int32)), (.ref b1)])) rfl rfl (hb hby d1_16) _ k) ?_
  refine own_st (T' := T10) (F' := (mkF m 19 #[.val (.int (7 : Int32)), .val (.ref b1), .val (.int (8 : Int32)), .val (.int (4 : Int32)), .val (.ref w_VAL4)] [])) (fun t k => XS.astore X10.here hx rfl (hb hby d1_17) rfl rfl (l' := #[.val (.int (7 : Int32)), .val (.ref b1), .val (.int (8 : Int32)), .val (.int (4 : Int32)), .val (.ref w_VAL4)]) rfl k) ?_
  refine own_st (T' := T10) (F' := (mkF m 21 #[.val (.int (7 : Int32)), .val (.ref b1), .val (.int (8 : Int32)), .val (.int (4 : Int32)), .val (.ref w_VAL4)] [(.ref w_VAL4)])) (fun t k => XS.aload X10.here hx rfl (hb hby d1_19) rfl rfl k) ?_
  obtain ⟨T12, X12, e12, st12⟩ := getF X10 hx hZ hown (host := "") (Or.inl (hw _ (List.mem_of_getElem? (i := 19) rfl))) Via.refl e10 (O_VAL4.ext O) (g := (mkF m 21 #[.val (.int (7 : Int32)), .val (.ref b1), .val (.int (8 : Int32)), .val (.int (4 : Int32)), .val (.ref w_VAL4)] [(.ref w_VAL4)])) rfl rfl (hb hby d1_21)
  refine own_st (T' := T12) (F' := (mkF m 24 #[.val (.int (7 : Int32)), .val (.ref b1), .val (.int (8 : Int32)), .val (.int (4 : Int32)), .val (.ref w_VAL4)] [(.int (4 : Int32))])) st12 ?_
  refine own_st (T' := T12) (F' := (mkF m 25 #[.val (.int (7 : Int32)), .val (.ref b1), .val (.int (8 : Int32)), .val (.int (4 : Int32)), .val (.ref w_VAL4)] [(.int (7 : Int32)), (.int (4 : Int32))])) (fun t k => XS.iloadN X12.here hx rfl (hb hby d1_24) rfl k) ?_
  refine own_st (T' := T12) (F' := (mkF m 31 #[.val (.int (7 : Int32)), .val (.ref b1), .val (.int (8 : Int32)), .val (.int (4 : Int32)), .val (.ref w_VAL4)] [])) (fun t k => XS.icmpYes X12.here hx rfl (pc0 := 25) (pc' := 31) rfl (hb hby d1_25) rfl (feq (by decide : ¬ ((4 : Int32) = (7 : Int32)))).2 (by decide) (by decide) k) ?_
  refine own_st (T' := T12) (F' := (mkF m 34 #[.val (.int (7 : Int32)), .val (.ref b1), .val (.int (8 : Int32)), .val (.int (5 : Int32)), .val (.ref w_VAL4)] [])) (fun t k => XS.iinc X12.here hx rfl (hb hby d1_31) rfl (l' := #[.val (.int (7 : Int32)), .val (.ref b1), .val (.int (8 : Int32)), .val (.int (5 : Int32)), .val (.ref w_VAL4)]) rfl k) ?_
  refine own_st (T' := T12) (F' := (mkF m 9 #[.val (.int (7 : Int32)), .val (.ref b1), .val (.int (8 : Int32)), .val (.int (5 : Int32)), .val (.ref w_VAL4)] [])) (fun t k => XS.goto X12.here hx rfl (pc0 := 34) (pc' := 9) rfl (hb hby d1_34) (by decide) (by decide) k) ?_
  refine own_st (T' := T12) (F' := (mkF m 10 #[.val (.int (7 : Int32)), .val (.ref b1), .val (.int (8 : Int32)), .val (.int (5 : Int32)), .val (.ref w_VAL4)] [(.int (5 : Int32))])) (fun t k => XS.iloadN X12.here hx rfl (hb hby d1_9) rfl k) ?_
  refine own_st (T' := T12) (F' := (mkF m 11 #[.val (.int (7 : Int32)), .val (.ref b1), .val (.int (8 : Int32)), .val (.int (5 : Int32)), .val (.ref w_VAL4)] [(.int (8 : Int32)), (.int (5 : Int32))])) (fun t k => XS.iloadN X12.here hx rfl (hb hby d1_10) rfl k) ?_
  refine own_st (T' := T12) (F' := (mkF m 14 #[.val (.int (7 : Int32)), .val (.ref b1), .val (.int (8 : Int32)), .val (.int (5 : Int32)), .val (.ref w_VAL4)] [])) (fun t k => XS.icmpNo X12.here hx rfl (hb hby d1_11) rfl (tlt (by decide : ((5 : Int32) < (8 : Int32)))).2.1 k) ?_
  refine own_st (T' := T12) (F' := (mkF m 15 #[.val (.int (7 : Int32)), .val (.ref b1), .val (.int (8 : Int32)), .val (.int (5 : Int32)), .val (.ref w_VAL4)] [(.ref b1)])) (fun t k => XS.aloadN X12.here hx rfl (hb hby d1_14) rfl rfl k) ?_
  refine own_st (T' := T12) (F' := (mkF m 16 #[.val (.int (7 : Int32)), .val (.ref b1), .val (.int (8 : Int32)), .val (.int (5 : Int32)), .val (.ref w_VAL4)] [(.int (5 : Int32)), (.ref b1)])) (fun t k => XS.iloadN X12.here hx rfl (hb hby d1_15) rfl k) ?_
  have V13 := V_b1
  obtain ⟨cl13, Ar13, qa13, Sa13, Na13, Ha13, Ga13⟩ := V13
  have hin13 : ¬ ((5 : Int32) < 0 ∨ cl13.slots.size ≤ ((5 : Int32)).toNatClampNeg) := inb_of Sa13 ⟨by decide, by decide⟩
  have hat13 : cl13.slots[((5 : Int32)).toNatClampNeg]? = some (.ref w_VAL5) := Has.at Ha13 hin13 rfl
  refine own_st (T' := T12) (F' := (mkF m 17 #[.val (.int (7 : Int32)), .val (.ref b1), .val (.int (8 : Int32)), .val (.int (5 : Int32)), .val (.ref w_VAL4)] [(.ref w_VAL5)])) (fun t k => X12.aaload hx (j := (5 : Int32)) (v := (.ref w_VAL5)) (by rw [e12]; exact Ar13.1) (State.isArrayOf_alike hZ.alike Ar13.2.1) rfl Ar13.2.2 hin13 hat13 (g := (mkF m 16 #[.val (.int (7 : Int32)), .val (.ref b1), .val (.int (8 : Int32)), .val (.int (5 : Int32)), .val (.ref w_VAL4)] [(.int (5 : Int32)), (.ref b1)])) rfl rfl (hb hby d1_16) _ k) ?_
  refine own_st (T' := T12) (F' := (mkF m 19 #[.val (.int (7 : Int32)), .val (.ref b1), .val (.int (8 : Int32)), .val (.int (5 : Int32)), .val (.ref w_VAL5)] [])) (fun t k => XS.astore X12.here hx rfl (hb hby d1_17) rfl rfl (l' := #[.val (.int (7 : Int32)), .val (.ref b1), .val (.int (8 : Int32)), .val (.int (5 : Int32)), .val (.ref w_VAL5)]) rfl k) ?_
  refine own_st (T' := T12) (F' := (mkF m 21 #[.val (.int (7 : Int32)), .val (.ref b1), .val (.int (8 : Int32)), .val (.int (5 : Int32)), .val (.ref w_VAL5)] [(.ref w_VAL5)])) (fun t k => XS.aload X12.here hx rfl (hb hby d1_19) rfl rfl k) ?_
  obtain ⟨T14, X14, e14, st14⟩ := getF X12 hx hZ hown (host := "") (Or.inl (hw _ (List.mem_of_getElem? (i := 19) rfl))) Via.refl e12 (O_VAL5.ext O) (g := (mkF m 21 #[.val (.int (7 : Int32)), .val (.ref b1), .val (.int (8 : Int32)), .val (.int (5 : Int32)), .val (.ref w_VAL5)] [(.ref w_VAL5)])) rfl rfl (hb hby d1_21)
  refine own_st (T' := T14) (F' := (mkF m 24 #[.val (.int (7 : Int32)), .val (.ref b1), .val (.int (8 : Int32)), .val (.int (5 : Int32)), .val (.ref w_VAL5)] [(.int (5 : Int32))])) st14 ?_
  refine own_st (T' := T14) (F' := (mkF m 25 #[.val (.int (7 : Int32)), .val (.ref b1), .val (.int (8 : Int32)), .val (.int (5 : Int32)), .val (.ref w_VAL5)] [(.int (7 : Int32)), (.int (5 : Int32))])) (fun t k => XS.iloadN X14.here hx rfl (hb hby d1_24) rfl k) ?_
  refine own_st (T' := T14) (F' := (mkF m 31 #[.val (.int (7 : Int32)), .val (.ref b1), .val (.int (8 : Int32)), .val (.int (5 : Int32)), .val (.ref w_VAL5)] [])) (fun t k => XS.icmpYes X14.here hx rfl (pc0 := 25) (pc' := 31) rfl (hb hby d1_25) rfl (feq (by decide : ¬ ((5 : Int32) = (7 : Int32)))).2 (by decide) (by decide) k) ?_
  refine own_st (T' := T14) (F' := (mkF m 34 #[.val (.int (7 : Int32)), .val (.ref b1), .val (.int (8 : Int32)), .val (.int (6 : Int32)), .val (.ref w_VAL5)] [])) (fun t k => XS.iinc X14.here hx rfl (hb hby d1_31) rfl (l' := #[.val (.int (7 : Int32)), .val (.ref b1), .val (.int (8 : Int32)), .val (.int (6 : Int32)), .val (.ref w_VAL5)]) rfl k) ?_
  refine own_st (T' := T14) (F' := (mkF m 9 #[.val (.int (7 : Int32)), .val (.ref b1), .val (.int (8 : Int32)), .val (.int (6 : Int32)), .val (.ref w_VAL5)] [])) (fun t k => XS.goto X14.here hx rfl (pc0 := 34) (pc' := 9) rfl (hb hby d1_34) (by decide) (by decide) k) ?_
  refine own_st (T' := T14) (F' := (mkF m 10 #[.val (.int (7 : Int32)), .val (.ref b1), .val (.int (8 : Int32)), .val (.int (6 : Int32)), .val (.ref w_VAL5)] [(.int (6 : Int32))])) (fun t k => XS.iloadN X14.here hx rfl (hb hby d1_9) rfl k) ?_
  refine own_st (T' := T14) (F' := (mkF m 11 #[.val (.int (7 : Int32)), .val (.ref b1), .val (.int (8 : Int32)), .val (.int (6 : Int32)), .val (.ref w_VAL5)] [(.int (8 : Int32)), (.int (6 : Int32))])) (fun t k => XS.iloadN X14.here hx rfl (hb hby d1_10) rfl k) ?_
  refine own_st (T' := T14) (F' := (mkF m 14 #[.val (.int (7 : Int32)), .val (.ref b1), .val (.int (8 : Int32)), .val (.int (6 : Int32)), .val (.ref w_VAL5)] [])) (fun t k => XS.icmpNo X14.here hx rfl (hb hby d1_11) rfl (tlt (by decide : ((6 : Int32) < (8 : Int32)))).2.1 k) ?_
  refine own_st (T' := T14) (F' := (mkF m 15 #[.val (.int (7 : Int32)), .val (.ref b1), .val (.int (8 : Int32)), .val (.int (6 : Int32)), .val (.ref w_VAL5)] [(.ref b1)])) (fun t k => XS.aloadN X14.here hx rfl (hb hby d1_14) rfl rfl k) ?_
  refine own_st (T' := T14) (F' := (mkF m 16 #[.val (.int (7 : Int32)), .val (.ref b1), .val (.int (8 : Int32)), .val (.int (6 : Int32)), .val (.ref w_VAL5)] [(.int (6 : Int32)), (.ref b1)])) (fun t k => XS.iloadN X14.here hx rfl (hb hby d1_15) rfl k) ?_
  have V15 := V_b1
  obtain ⟨cl15, Ar15, qa15, Sa15, Na15, Ha15, Ga15⟩ := V15
  have hin15 : ¬ ((6 : Int32) < 0 ∨ cl15.slots.size ≤ ((6 : Int32)).toNatClampNeg) := inb_of Sa15 ⟨by decide, by decide⟩
  have hat15 : cl15.slots[((6 : Int32)).toNatClampNeg]? = some (.ref w_VAL6) := Has.at Ha15 hin15 rfl
  refine own_st (T' := T14) (F' := (mkF m 17 #[.val (.int (7 : Int32)), .val (.ref b1), .val (.int (8 : Int32)), .val (.int (6 : Int32)), .val (.ref w_VAL5)] [(.ref w_VAL6)])) (fun t k => X14.aaload hx (j := (6 : Int32)) (v := (.ref w_VAL6)) (by rw [e14]; exact Ar15.1) (State.isArrayOf_alike hZ.alike Ar15.2.1) rfl Ar15.2.2 hin15 hat15 (g := (mkF m 16 #[.val (.int (7 : Int32)), .val (.ref b1), .val (.int (8 : Int32)), .val (.int (6 : Int32)), .val (.ref w_VAL5)] [(.int (6 : Int32)), (.ref b1)])) rfl rfl (hb hby d1_16) _ k) ?_
  refine own_st (T' := T14) (F' := (mkF m 19 #[.val (.int (7 : Int32)), .val (.ref b1), .val (.int (8 : Int32)), .val (.int (6 : Int32)), .val (.ref w_VAL6)] [])) (fun t k => XS.astore X14.here hx rfl (hb hby d1_17) rfl rfl (l' := #[.val (.int (7 : Int32)), .val (.ref b1), .val (.int (8 : Int32)), .val (.int (6 : Int32)), .val (.ref w_VAL6)]) rfl k) ?_
  refine own_st (T' := T14) (F' := (mkF m 21 #[.val (.int (7 : Int32)), .val (.ref b1), .val (.int (8 : Int32)), .val (.int (6 : Int32)), .val (.ref w_VAL6)] [(.ref w_VAL6)])) (fun t k => XS.aload X14.here hx rfl (hb hby d1_19) rfl rfl k) ?_
  obtain ⟨T16, X16, e16, st16⟩ := getF X14 hx hZ hown (host := "") (Or.inl (hw _ (List.mem_of_getElem? (i := 19) rfl))) Via.refl e14 (O_VAL6.ext O) (g := (mkF m 21 #[.val (.int (7 : Int32)), .val (.ref b1), .val (.int (8 : Int32)), .val (.int (6 : Int32)), .val (.ref w_VAL6)] [(.ref w_VAL6)])) rfl rfl (hb hby d1_21)
  refine own_st (T' := T16) (F' := (mkF m 24 #[.val (.int (7 : Int32)), .val (.ref b1), .val (.int (8 : Int32)), .val (.int (6 : Int32)), .val (.ref w_VAL6)] [(.int (6 : Int32))])) st16 ?_
  refine own_st (T' := T16) (F' := (mkF m 25 #[.val (.int (7 : Int32)), .val (.ref b1), .val (.int (8 : Int32)), .val (.int (6 : Int32)), .val (.ref w_VAL6)] [(.int (7 : Int32)), (.int (6 : Int32))])) (fun t k => XS.iloadN X16.here hx rfl (hb hby d1_24) rfl k) ?_
  refine own_st (T' := T16) (F' := (mkF m 31 #[.val (.int (7 : Int32)), .val (.ref b1), .val (.int (8 : Int32)), .val (.int (6 : Int32)), .val (.ref w_VAL6)] [])) (fun t k => XS.icmpYes X16.here hx rfl (pc0 := 25) (pc' := 31) rfl (hb hby d1_25) rfl (feq (by decide : ¬ ((6 : Int32) = (7 : Int32)))).2 (by decide) (by decide) k) ?_
  refine own_st (T' := T16) (F' := (mkF m 34 #[.val (.int (7 : Int32)), .val (.ref b1), .val (.int (8 : Int32)), .val (.int (7 : Int32)), .val (.ref w_VAL6)] [])) (fun t k => XS.iinc X16.here hx rfl (hb hby d1_31) rfl (l' := #[.val (.int (7 : Int32)), .val (.ref b1), .val (.int (8 : Int32)), .val (.int (7 : Int32)), .val (.ref w_VAL6)]) rfl k) ?_
  refine own_st (T' := T16) (F' := (mkF m 9 #[.val (.int (7 : Int32)), .val (.ref b1), .val (.int (8 : Int32)), .val (.int (7 : Int32)), .val (.ref w_VAL6)] [])) (fun t k => XS.goto X16.here hx rfl (pc0 := 34) (pc' := 9) rfl (hb hby d1_34) (by decide) (by decide) k) ?_
  refine own_st (T' := T16) (F' := (mkF m 10 #[.val (.int (7 : Int32)), .val (.ref b1), .val (.int (8 : Int32)), .val (.int (7 : Int32)), .val (.ref w_VAL6)] [(.int (7 : Int32))])) (fun t k => XS.iloadN X16.here hx rfl (hb hby d1_9) rfl k) ?_
  refine own_st (T' := T16) (F' := (mkF m 11 #[.val (.int (7 : Int32)), .val (.ref b1), .val (.int (8 : Int32)), .val (.int (7 : Int32)), .val (.ref w_VAL6)] [(.int (8 : Int32)), (.int (7 : Int32))])) (fun t k => XS.iloadN X16.here hx rfl (hb hby d1_10) rfl k) ?_
  refine own_st (T' := T16) (F' := (mkF m 14 #[.val (.int (7 : Int32)), .val (.ref b1), .val (.int (8 : Int32)), .val (.int (7 : Int32)), .val (.ref w_VAL6)] [])) (fun t k => XS.icmpNo X16.here hx rfl (hb hby d1_11) rfl (tlt (by decide : ((7 : Int32) < (8 : Int32)))).2.1 k) ?_
  refine own_st (T' := T16) (F' := (mkF m 15 #[.val (.int (7 : Int32)), .val (.ref b1), .val (.int (8 : Int32)), .val (.int (7 : Int32)), .val (.ref w_VAL6)] [(.ref b1)])) (fun t k => XS.aloadN X16.here hx rfl (hb hby d1_14) rfl rfl k) ?_
  refine own_st (T' := T16) (F' := (mkF m 16 #[.val (.int (7 : Int32)), .val (.ref b1), .val (.int (8 : Int32)), .val (.int (7 : Int32)), .val (.ref w_VAL6)] [(.int (7 : Int32)), (.ref b1)])) (fun t k => XS.iloadN X16.here hx rfl (hb hby d1_15) rfl k) ?_
  have V17 := V_b1
  obtain ⟨cl17, Ar17, qa17, Sa17, Na17, Ha17, Ga17⟩ := V17
  have hin17 : ¬ ((7 : Int32) < 0 ∨ cl17.slots.size ≤ ((7 : Int32)).toNatClampNeg) := inb_of Sa17 ⟨by decide, by decide⟩
  have hat17 : cl17.slots[((7 : Int32)).toNatClampNeg]? = some (.ref w_VAL7) := Has.at Ha17 hin17 rfl
  refine own_st (T' := T16) (F' := (mkF m 17 #[.val (.int (7 : Int32)), .val (.ref b1), .val (.int (8 : Int32)), .val (.int (7 : Int32)), .val (.ref w_VAL6)] [(.ref w_VAL7)])) (fun t k => X16.aaload hx (j := (7 : Int32)) (v := (.ref w_VAL7)) (by rw [e16]; exact Ar17.1) (State.isArrayOf_alike hZ.alike Ar17.2.1) rfl Ar17.2.2 hin17 hat17 (g := (mkF m 16 #[.val (.int (7 : Int32)), .val (.ref b1), .val (.int (8 : Int32)), .val (.int (7 : Int32)), .val (.ref w_VAL6)] [(.int (7 : Int32)), (.ref b1)])) rfl rfl (hb hby d1_16) _ k) ?_
  refine own_st (T' := T16) (F' := (mkF m 19 #[.val (.int (7 : Int32)), .val (.ref b1), .val (.int (8 : Int32)), .val (.int (7 : Int32)), .val (.ref w_VAL7)] [])) (fun t k => XS.astore X16.here hx rfl (hb hby d1_17) rfl rfl (l' := #[.val (.int (7 : Int32)), .val (.ref b1), .val (.int (8 : Int32)), .val (.int (7 : Int32)), .val (.ref w_VAL7)]) rfl k) ?_
  refine own_st (T' := T16) (F' := (mkF m 21 #[.val (.int (7 : Int32)), .val (.ref b1), .val (.int (8 : Int32)), .val (.int (7 : Int32)), .val (.ref w_VAL7)] [(.ref w_VAL7)])) (fun t k => XS.aload X16.here hx rfl (hb hby d1_19) rfl rfl k) ?_
  obtain ⟨T18, X18, e18, st18⟩ := getF X16 hx hZ hown (host := "") (Or.inl (hw _ (List.mem_of_getElem? (i := 19) rfl))) Via.refl e16 (O_VAL7.ext O) (g := (mkF m 21 #[.val (.int (7 : Int32)), .val (.ref b1), .val (.int (8 : Int32)), .val (.int (7 : Int32)), .val (.ref w_VAL7)] [(.ref w_VAL7)])) rfl rfl (hb hby d1_21)
  refine own_st (T' := T18) (F' := (mkF m 24 #[.val (.int (7 : Int32)), .val (.ref b1), .val (.int (8 : Int32)), .val (.int (7 : Int32)), .val (.ref w_VAL7)] [(.int (7 : Int32))])) st18 ?_
  refine own_st (T' := T18) (F' := (mkF m 25 #[.val (.int (7 : Int32)), .val (.ref b1), .val (.int (8 : Int32)), .val (.int (7 : Int32)), .val (.ref w_VAL7)] [(.int (7 : Int32)), (.int (7 : Int32))])) (fun t k => XS.iloadN X18.here hx rfl (hb hby d1_24) rfl k) ?_
  refine own_st (T' := T18) (F' := (mkF m 28 #[.val (.int (7 : Int32)), .val (.ref b1), .val (.int (8 : Int32)), .val (.int (7 : Int32)), .val (.ref w_VAL7)] [])) (fun t k => XS.icmpNo X18.here hx rfl (hb hby d1_25) rfl (teq rfl).2 k) ?_
  refine own_st (T' := T18) (F' := (mkF m 30 #[.val (.int (7 : Int32)), .val (.ref b1), .val (.int (8 : Int32)), .val (.int (7 : Int32)), .val (.ref w_VAL7)] [(.ref w_VAL7)])) (fun t k => XS.aload X18.here hx rfl (hb hby d1_28) rfl rfl k) ?_
  exact own_retA X18 hx (t := (.object "com/example/turnleaf/turnleaf/token/KeyType")) Bd.returns rfl rfl (hb hby d1_30) hlk (by show QE Z (.ref w_VAL7) h0 _ T18.heap _; rw [e18]; exact ⟨rfl, N, E1⟩) (by decide) (by decide)
set_option maxRecDepth 65536 in
set_option maxHeartbeats 40000000 in
theorem rmX_7 (l : Launch) (Z : State) (a0 : Array Value) {w_VAL : Addr} {k_VAL : ClassId} {w_VAL0 : Addr} {w_VAL1 : Addr} {w_VAL2 : Addr} {w_VAL3 : Addr} {w_VAL4 : Addr} {w_VAL5 : Addr} {w_VAL6 : Addr} {w_VAL7 : Addr} (CX : Ctx Z a0 w_VAL k_VAL w_VAL0 w_VAL1 w_VAL2 w_VAL3 w_VAL4 w_VAL5 w_VAL6 w_VAL7) (ws : List Jvm.Cond)  (h0 : Heap) (O : Ext Z.heap h0)  :
    MetFree l (⟨"com/example/turnleaf/turnleaf/token/KeyTypeOfTagPinLaw", "expected", "(I)Lcom/example/turnleaf/turnleaf/token/KeyType;"⟩ : MethodName) (head1 (Jvm.Cond.code (⟨"com/example/turnleaf/turnleaf/token/KeyTypeOfTagPinLaw", "expected", "(I)Lcom/example/turnleaf/turnleaf/token/KeyType;"⟩ : MethodName) method_2_code 1 (some (.object "com/example/turnleaf/turnleaf/token/KeyType")) :: ws) ({ frames := 0, cells := 0, slots := 0, locals := 0 } : Room)) (fun a U => a = #[(.int (7 : Int32))] ∧ Z.Warmed39 U.vm ∧ U.heap = h0) (fun _ _ _ _ _ => True) (fun _ U o U' => ∃ v L, o = .returned v ∧ QP Z (.ref w_VAL7) h0 v U'.heap L ∧ FrameEnd U o U' L ({ frames := 0, cells := 0, slots := 0, locals := 0 } : Room).cells ({ frames := 0, cells := 0, slots := 0, locals := 0 } : Room).slots) := by
  refine MetFree.of_bodySF (plainFor_of_name pn_1) hisR ?_
  intro p e s m args below meth c s₁ Bd hml0 hP hK
  obtain ⟨rfl, hZ, hh⟩ := hP
  have CX0 := CX
  obtain ⟨hw, E_VAL0, E_VAL1, E_VAL2, E_VAL3, E_VAL4, E_VAL5, E_VAL6, E_VAL7, O_VAL0, O_VAL1, S_INTEGER, O_VAL2, O_VAL3, O_VAL4, S_DECIMAL, O_VAL5, O_VAL6, O_VAL7, S_NULL, S_SHORT, S_DOUBLE, S_LONG, S_TEXT, S_UUID, S_VAL, E_VAL, V_VAL, -⟩ := CX0
  have hx := Bd.exec
  have hby := Bd.bytes
  have hml : c.maxLocals = 1 := hml0
  have hown : s.vm.findClass "com/example/turnleaf/turnleaf/token/KeyTypeOfTagPinLaw" = some m.cls := findClass_of_methodNamed Bd.named
  have hnm := (name_of_methodNamed Bd.named Bd.method).1
  have hlk : meth.locks = false := BodyLoose.notSynchronized Bd
  have X0 : Stand p l e ({ frames := 0, cells := 0, slots := 0, locals := 0 } : Room) s m #[(.int (7 : Int32))] below meth c s₁ [] 0 0 := Stand.of_body Bd
  have e0 : s₁.heap = h0 := by rw [← hh, Bd.state]; rfl
  have N := Fr.nil Z.heap.size
  show own_Done p.tables e below (own_R (QP Z (.ref w_VAL7) h0) s 0 0) s₁ (entryFrame m #[(.int (7 : Int32))] 1)
  refine own_st (T' := s₁) (F' := (mkF m 0 #[.val (.int (7 : Int32))] [])) (fun t k => castTop (by first | rfl | (simp [entryFrame, mkF, argsToLocals, Value.category]; done)) k) ?_
  refine own_st (T' := s₁) (F' := (mkF m 1 #[.val (.int (7 : Int32))] [(.int (7 : Int32))])) (fun t k => XS.iloadN X0.here hx rfl (hb hby d3_0) rfl k) ?_
  refine own_st (T' := s₁) (F' := (mkF m 2 #[.val (.int (7 : Int32))] [(.int (1 : Int32)), (.int (7 : Int32))])) (fun t k => XS.iconst X0.here hx rfl (hb hby d3_1) k) ?_
  refine own_st (T' := s₁) (F' := (mkF m 9 #[.val (.int (7 : Int32))] [])) (fun t k => XS.icmpYes X0.here hx rfl (pc0 := 2) (pc' := 9) rfl (hb hby d3_2) rfl (feq (by decide : ¬ ((7 : Int32) = (1 : Int32)))).2 (by decide) (by decide) k) ?_
  refine own_st (T' := s₁) (F' := (mkF m 10 #[.val (.int (7 : Int32))] [(.int (7 : Int32))])) (fun t k => XS.iloadN X0.here hx rfl (hb hby d3_9) rfl k) ?_
  refine own_st (T' := s₁) (F' := (mkF m 11 #[.val (.int (7 : Int32))] [(.int (2 : Int32)), (.int (7 : Int32))])) (fun t k => XS.iconst X0.here hx rfl (hb hby d3_10) k) ?_
  refine own_st (T' := s₁) (F' := (mkF m 18 #[.val (.int (7 : Int32))] [])) (fun t k => XS.icmpYes X0.here hx rfl (pc0 := 11) (pc' := 18) rfl (hb hby d3_11) rfl (feq (by decide : ¬ ((7 : Int32) = (2 : Int32)))).2 (by decide) (by decide) k) ?_
  refine own_st (T' := s₁) (F' := (mkF m 19 #[.val (.int (7 : Int32))] [(.int (7 : Int32))])) (fun t k => XS.iloadN X0.here hx rfl (hb hby d3_18) rfl k) ?_
  refine own_st (T' := s₁) (F' := (mkF m 20 #[.val (.int (7 : Int32))] [(.int (3 : Int32)), (.int (7 : Int32))])) (fun t k => XS.iconst X0.here hx rfl (hb hby d3_19) k) ?_
  refine own_st (T' := s₁) (F' := (mkF m 27 #[.val (.int (7 : Int32))] [])) (fun t k => XS.icmpYes X0.here hx rfl (pc0 := 20) (pc' := 27) rfl (hb hby d3_20) rfl (feq (by decide : ¬ ((7 : Int32) = (3 : Int32)))).2 (by decide) (by decide) k) ?_
  refine own_st (T' := s₁) (F' := (mkF m 28 #[.val (.int (7 : Int32))] [(.int (7 : Int32))])) (fun t k => XS.iloadN X0.here hx rfl (hb hby d3_27) rfl k) ?_
  refine own_st (T' := s₁) (F' := (mkF m 29 #[.val (.int (7 : Int32))] [(.int (4 : Int32)), (.int (7 : Int32))])) (fun t k => XS.iconst X0.here hx rfl (hb hby d3_28) k) ?_
  refine own_st (T' := s₁) (F' := (mkF m 36 #[.val (.int (7 : Int32))] [])) (fun t k => XS.icmpYes X0.here hx rfl (pc0 := 29) (pc' := 36) rfl (hb hby d3_29) rfl (feq (by decide : ¬ ((7 : Int32) = (4 : Int32)))).2 (by decide) (by decide) k) ?_
  refine own_st (T' := s₁) (F' := (mkF m 37 #[.val (.int (7 : Int32))] [(.int (7 : Int32))])) (fun t k => XS.iloadN X0.here hx rfl (hb hby d3_36) rfl k) ?_
  refine own_st (T' := s₁) (F' := (mkF m 38 #[.val (.int (7 : Int32))] [(.int (5 : Int32)), (.int (7 : Int32))])) (fun t k => XS.iconst X0.here hx rfl (hb hby d3_37) k) ?_
  refine own_st (T' := s₁) (F' := (mkF m 45 #[.val (.int (7 : Int32))] [])) (fun t k => XS.icmpYes X0.here hx rfl (pc0 := 38) (pc' := 45) rfl (hb hby d3_38) rfl (feq (by decide : ¬ ((7 : Int32) = (5 : Int32)))).2 (by decide) (by decide) k) ?_
  refine own_st (T' := s₁) (F' := (mkF m 46 #[.val (.int (7 : Int32))] [(.int (7 : Int32))])) (fun t k => XS.iloadN X0.here hx rfl (hb hby d3_45) rfl k) ?_
  refine own_st (T' := s₁) (F' := (mkF m 48 #[.val (.int (7 : Int32))] [(.int (6 : Int32)), (.int (7 : Int32))])) (fun t k => XS.bipush X0.here hx rfl (hb hby d3_46) k) ?_
  refine own_st (T' := s₁) (F' := (mkF m 55 #[.val (.int (7 : Int32))] [])) (fun t k => XS.icmpYes X0.here hx rfl (pc0 := 48) (pc' := 55) rfl (hb hby d3_48) rfl (feq (by decide : ¬ ((7 : Int32) = (6 : Int32)))).2 (by decide) (by decide) k) ?_
  refine own_st (T' := s₁) (F' := (mkF m 56 #[.val (.int (7 : Int32))] [(.int (7 : Int32))])) (fun t k => XS.iloadN X0.here hx rfl (hb hby d3_55) rfl k) ?_
  refine own_st (T' := s₁) (F' := (mkF m 58 #[.val (.int (7 : Int32))] [(.int (7 : Int32)), (.int (7 : Int32))])) (fun t k => XS.bipush X0.here hx rfl (hb hby d3_56) k) ?_
  refine own_st (T' := s₁) (F' := (mkF m 61 #[.val (.int (7 : Int32))] [])) (fun t k => XS.icmpNo X0.here hx rfl (hb hby d3_58) rfl (teq rfl).2 k) ?_
  obtain ⟨T1, X1, e1, st1⟩ := getS2 X0 hx hZ hown (host := "") (Or.inl (hw _ (List.mem_of_getElem? (i := 42) rfl))) Via.refl e0 (S_NULL.ext O) (g := (mkF m 61 #[.val (.int (7 : Int32))] [])) rfl (hb hby d3_61)
  refine own_st (T' := T1) (F' := (mkF m 64 #[.val (.int (7 : Int32))] [(.ref w_VAL7)])) st1 ?_
  exact own_retA X1 hx (t := (.object "com/example/turnleaf/turnleaf/token/KeyType")) Bd.returns rfl rfl (hb hby d3_64) hlk (by show QP Z (.ref w_VAL7) h0 _ T1.heap _; rw [e1]; exact ⟨rfl, N, rfl⟩) (by decide) (by decide)
set_option maxRecDepth 65536 in
set_option maxHeartbeats 40000000 in
theorem rmO_8 (l : Launch) (Z : State) (a0 : Array Value) {w_VAL : Addr} {k_VAL : ClassId} {w_VAL0 : Addr} {w_VAL1 : Addr} {w_VAL2 : Addr} {w_VAL3 : Addr} {w_VAL4 : Addr} {w_VAL5 : Addr} {w_VAL6 : Addr} {w_VAL7 : Addr} (CX : Ctx Z a0 w_VAL k_VAL w_VAL0 w_VAL1 w_VAL2 w_VAL3 w_VAL4 w_VAL5 w_VAL6 w_VAL7) (ws : List Jvm.Cond)  (h0 : Heap) (O : Ext Z.heap h0)  :
    MetFree l (⟨"com/example/turnleaf/turnleaf/token/KeyType", "ofTag", "(I)Lcom/example/turnleaf/turnleaf/token/KeyType;"⟩ : MethodName) (head1 (Jvm.Cond.code (⟨"com/example/turnleaf/turnleaf/token/KeyType", "ofTag", "(I)Lcom/example/turnleaf/turnleaf/token/KeyType;"⟩ : MethodName) prog_36_method_8_code 5 (some (.object "com/example/turnleaf/turnleaf/token/KeyType")) :: ws) ({ frames := 2, cells := 1, slots := 8, locals := 25 } : Room)) (fun a U => a = #[(.int (8 : Int32))] ∧ Z.Warmed39 U.vm ∧ U.heap = h0) (fun _ _ _ _ _ => True) (fun _ U o U' => ∃ v L, o = .returned v ∧ QE Z (.ref w_VAL0) h0 v U'.heap L ∧ FrameEnd U o U' L ({ frames := 2, cells := 1, slots := 8, locals := 25 } : Room).cells ({ frames := 2, cells := 1, slots := 8, locals := 25 } : Room).slots) := by
  refine MetFree.of_bodySF (plainFor_of_name pn_0) hisR ?_
  intro p e s m args below meth c s₁ Bd hml0 hP hK
  obtain ⟨rfl, hZ, hh⟩ := hP
  have CX0 := CX
  obtain ⟨hw, E_VAL0, E_VAL1, E_VAL2, E_VAL3, E_VAL4, E_VAL5, E_VAL6, E_VAL7, O_VAL0, O_VAL1, S_INTEGER, O_VAL2, O_VAL3, O_VAL4, S_DECIMAL, O_VAL5, O_VAL6, O_VAL7, S_NULL, S_SHORT, S_DOUBLE, S_LONG, S_TEXT, S_UUID, S_VAL, E_VAL, V_VAL, -⟩ := CX0
  have hx := Bd.exec
  have hby := Bd.bytes
  have hml : c.maxLocals = 5 := hml0
  have hown : s.vm.findClass "com/example/turnleaf/turnleaf/token/KeyType" = some m.cls := findClass_of_methodNamed Bd.named
  have hnm := (name_of_methodNamed Bd.named Bd.method).1
  have hlk : meth.locks = false := BodyLoose.notSynchronized Bd
  have X0 : Stand p l e ({ frames := 2, cells := 1, slots := 8, locals := 25 } : Room) s m #[(.int (8 : Int32))] below meth c s₁ [] 0 0 := Stand.of_body Bd
  have e0 : s₁.heap = h0 := by rw [← hh, Bd.state]; rfl
  have N := Fr.nil Z.heap.size
  show own_Done p.tables e below (own_R (QE Z (.ref w_VAL0) h0) s 1 8) s₁ (entryFrame m #[(.int (8 : Int32))] 5)
  refine own_st (T' := s₁) (F' := (mkF m 0 #[.val (.int (8 : Int32)), .unset, .unset, .unset, .unset] [])) (fun t k => castTop (by first | rfl | (simp [entryFrame, mkF, argsToLocals, Value.category]; done)) k) ?_
  obtain ⟨v1, _, ⟨T1, L1, k1, n1⟩, -, X1, ⟨Lc1, hQ1, l1, y1, z1⟩, st1⟩ := Jvm.LawKit.callS X0 hx (y := (⟨"com/example/turnleaf/turnleaf/token/KeyType", "values", "()[Lcom/example/turnleaf/turnleaf/token/KeyType;"⟩ : MethodName)) hown (mvT hZ (hw _ (List.mem_of_getElem? (i := 4) rfl))) (mvT hZ (hw _ (List.mem_of_getElem? (i := 5) rfl))) (mvT hZ (hw _ (List.mem_of_getElem? (i := 2) rfl))) (mvT hZ (hw _ (List.mem_of_getElem? (i := 6) rfl))) (by decide) (backOf (W := 0) (rm2 l Z a0 CX [] h0 O) hZ (hw _ (List.mem_of_getElem? (i := 6) rfl)) (hw _ (List.mem_of_getElem? (i := 2) rfl)) (by decide) (by decide)) (g := (mkF m 0 #[.val (.int (8 : Int32)), .unset, .unset, .unset, .unset] [])) rfl (by rw [hml]; rfl) (argsL := []) (rest := []) (lenOf pd_0 rfl) rfl (by show 2 * 0 + _ ≤ _; exact Nat.le_of_eq rfl) (hb hby d1_0) (fun _ _ => ⟨rfl, e0, (by decide : 0 + 1 ≤ _), (by decide : 0 + 8 ≤ _)⟩)
  dsimp only [Pt.U, Pt.locs, Pt.cells, Pt.slots] at X1 l1 y1 z1 st1 hQ1
  subst l1 y1 z1
  obtain ⟨rfl, N1q, E1, V1⟩ := hQ1
  have N := Fr.app N N1q
  obtain ⟨b1, g1⟩ : ∃ z, z = h0.size := ⟨_, rfl⟩
  rw [← g1] at V1 st1
  have g_b1 : Z.heap.size ≤ b1 := Nat.le_trans O.1 (Nat.le_of_eq g1.symm)
  have O := own_ext_trans O E1
  have V_b1 := V1
  refine own_st (T' := T1) (F' := (mkF m 3 #[.val (.int (8 : Int32)), .unset, .unset, .unset, .unset] [(.ref b1)])) st1 ?_
  refine own_st (T' := T1) (F' := (mkF m 4 #[.val (.int (8 : Int32)), .val (.ref b1), .unset, .unset, .unset] [])) (fun t k => XS.astoreN X1.here hx rfl (hb hby d1_3) rfl rfl (l' := #[.val (.int (8 : Int32)), .val (.ref b1), .unset, .unset, .unset]) rfl k) ?_
  refine own_st (T' := T1) (F' := (mkF m 5 #[.val (.int (8 : Int32)), .val (.ref b1), .unset, .unset, .unset] [(.ref b1)])) (fun t k => XS.aloadN X1.here hx rfl (hb hby d1_4) rfl rfl k) ?_
  have V2 := V_b1
  obtain ⟨cl2, Ar2, qa2, Sa2, Na2, Ha2, Ga2⟩ := V2
  refine own_st (T' := T1) (F' := (mkF m 6 #[.val (.int (8 : Int32)), .val (.ref b1), .unset, .unset, .unset] [(.int (8 : Int32))])) (fun t k => X1.arraylength hx Ar2.1 (State.isArrayOf_alike hZ.alike Ar2.2.1) (g := (mkF m 5 #[.val (.int (8 : Int32)), .val (.ref b1), .unset, .unset, .unset] [(.ref b1)])) rfl rfl (hb hby d1_5) _ (by rw [(len_of Sa2 Na2)]; exact k)) ?_
  refine own_st (T' := T1) (F' := (mkF m 7 #[.val (.int (8 : Int32)), .val (.ref b1), .val (.int (8 : Int32)), .unset, .unset] [])) (fun t k => XS.istoreN X1.here hx rfl (hb hby d1_6) rfl (l' := #[.val (.int (8 : Int32)), .val (.ref b1), .val (.int (8 : Int32)), .unset, .unset]) rfl k) ?_
  refine own_st (T' := T1) (F' := (mkF m 8 #[.val (.int (8 : Int32)), .val (.ref b1), .val (.int (8 : Int32)), .unset, .unset] [(.int (0 : Int32))])) (fun t k => XS.iconst X1.here hx rfl (hb hby d1_7) k) ?_
  refine own_st (T' := T1) (F' := (mkF m 9 #[.val (.int (8 : Int32)), .val (.ref b1), .val (.int (8 : Int32)), .val (.int (0 : Int32)), .unset] [])) (fun t k => XS.istoreN X1.here hx rfl (hb hby d1_8) rfl (l' := #[.val (.int (8 : Int32)), .val (.ref b1), .val (.int (8 : Int32)), .val (.int (0 : Int32)), .unset]) rfl k) ?_
  refine own_st (T' := T1) (F' := (mkF m 10 #[.val (.int (8 : Int32)), .val (.ref b1), .val (.int (8 : Int32)), .val (.int (0 : Int32)), .unset] [(.int (0 : Int32))])) (fun t k => XS.iloadN X1.here hx rfl (hb hby d1_9) rfl k) ?_
  refine own_st (T' := T1) (F' := (mkF m 11 #[.val (.int (8 : Int32)), .val (.ref b1), .val (.int (8 : Int32)), .val (.int (0 : Int32)), .unset] [(.int (8 : Int32)), (.int (0 : Int32))])) (fun t k => XS.iloadN X1.here hx rfl (hb hby d1_10) rfl k) ?_
  refine own_st (T' := T1) (F' := (mkF m 14 #[.val (.int (8 : Int32)), .val (.ref b1), .val (.int (8 : Int32)), .val (.int (0 : Int32)), .unset] [])) (fun t k => XS.icmpNo X1.here hx rfl (hb hby d1_11) rfl (tlt (by decide : ((0 : Int32) < (8 : Int32)))).2.1 k) ?_
  refine own_st (T' := T1) (F' := (mkF m 15 #[.val (.int (8 : Int32)), .val (.ref b1), .val (.int (8 : Int32)), .val (.int (0 : Int32)), .unset] [(.ref b1)])) (fun t k => XS.aloadN X1.here hx rfl (hb hby d1_14) rfl rfl k) ?_
  refine own_st (T' := T1) (F' := (mkF m 16 #[.val (.int (8 : Int32)), .val (.ref b1), .val (.int (8 : Int32)), .val (.int (0 : Int32)), .unset] [(.int (0 : Int32)), (.ref b1)])) (fun t k => XS.iloadN X1.here hx rfl (hb hby d1_15) rfl k) ?_
  have V3 := V_b1
  obtain ⟨cl3, Ar3, qa3, Sa3, Na3, Ha3, Ga3⟩ := V3
  have hin3 : ¬ ((0 : Int32) < 0 ∨ cl3.slots.size ≤ ((0 : Int32)).toNatClampNeg) := inb_of Sa3 ⟨by decide, by decide⟩
  have hat3 : cl3.slots[((0 : Int32)).toNatClampNeg]? = some (.ref w_VAL0) := Has.at Ha3 hin3 rfl
  refine own_st (T' := T1) (F' := (mkF m 17 #[.val (.int (8 : Int32)), .val (.ref b1), .val (.int (8 : Int32)), .val (.int (0 : Int32)), .unset] [(.ref w_VAL0)])) (fun t k => X1.aaload hx (j := (0 : Int32)) (v := (.ref w_VAL0)) Ar3.1 (State.isArrayOf_alike hZ.alike Ar3.2.1) rfl Ar3.2.2 hin3 hat3 (g := (mkF m 16 #[.val (.int (8 : Int32)), .val (.ref b1), .val (.int (8 : Int32)), .val (.int (0 : Int32)), .unset] [(.int (0 : Int32)), (.ref b1)])) rfl rfl (hb hby d1_16) _ k) ?_
  refine own_st (T' := T1) (F' := (mkF m 19 #[.val (.int (8 : Int32)), .val (.ref b1), .val (.int (8 : Int32)), .val (.int (0 : Int32)), .val (.ref w_VAL0)] [])) (fun t k => XS.astore X1.here hx rfl (hb hby d1_17) rfl rfl (l' := #[.val (.int (8 : Int32)), .val (.ref b1), .val (.int (8 : Int32)), .val (.int (0 : Int32)), .val (.ref w_VAL0)]) rfl k) ?_
  refine own_st (T' := T1) (F' := (mkF m 21 #[.val (.int (8 : Int32)), .val (.ref b1), .val (.int (8 : Int32)), .val (.int (0 : Int32)), .val (.ref w_VAL0)] [(.ref w_VAL0)])) (fun t k => XS.aload X1.here hx rfl (hb hby d1_19) rfl rfl k) ?_
  obtain ⟨T4, X4, e4, st4⟩ := getF X1 hx hZ hown (host := "") (Or.inl (hw _ (List.mem_of_getElem? (i := 19) rfl))) Via.refl rfl (O_VAL0.ext O) (g := (mkF m 21 #[.val (.int (8 : Int32)), .val (.ref b1), .val (.int (8 : Int32)), .val (.int (0 : Int32)), .val (.ref w_VAL0)] [(.ref w_VAL0)])) rfl rfl (hb hby d1_21)
  refine own_st (T' := T4) (F' := (mkF m 24 #[.val (.int (8 : Int32)), .val (.ref b1), .val (.int (8 : Int32)), .val (.int (0 : Int32)), .val (.ref w_VAL0)] [(.int (8 : Int32))])) st4 ?_
  refine own_st (T' := T4) (F' := (mkF m 25 #[.val (.int (8 : Int32)), .val (.ref b1), .val (.int (8 : Int32)), .val (.int (0 : Int32)), .val (.ref w_VAL0)] [(.int (8 : Int32)), (.int (8 : Int32))])) (fun t k => XS.iloadN X4.here hx rfl (hb hby d1_24) rfl k) ?_
  refine own_st (T' := T4) (F' := (mkF m 28 #[.val (.int (8 : Int32)), .val (.ref b1), .val (.int (8 : Int32)), .val (.int (0 : Int32)), .val (.ref w_VAL0)] [])) (fun t k => XS.icmpNo X4.here hx rfl (hb hby d1_25) rfl (teq rfl).2 k) ?_
  refine own_st (T' := T4) (F' := (mkF m 30 #[.val (.int (8 : Int32)), .val (.ref b1), .val (.int (8 : Int32)), .val (.int (0 : Int32)), .val (.ref w_VAL0)] [(.ref w_VAL0)])) (fun t k => XS.aload X4.here hx rfl (hb hby d1_28) rfl rfl k) ?_
  exact own_retA X4 hx (t := (.object "com/example/turnleaf/turnleaf/token/KeyType")) Bd.returns rfl rfl (hb hby d1_30) hlk (by show QE Z (.ref w_VAL0) h0 _ T4.heap _; rw [e4]; exact ⟨rfl, N, E1⟩) (by decide) (by decide)
set_option maxRecDepth 65536 in
set_option maxHeartbeats 40000000 in
theorem rmX_8 (l : Launch) (Z : State) (a0 : Array Value) {w_VAL : Addr} {k_VAL : ClassId} {w_VAL0 : Addr} {w_VAL1 : Addr} {w_VAL2 : Addr} {w_VAL3 : Addr} {w_VAL4 : Addr} {w_VAL5 : Addr} {w_VAL6 : Addr} {w_VAL7 : Addr} (CX : Ctx Z a0 w_VAL k_VAL w_VAL0 w_VAL1 w_VAL2 w_VAL3 w_VAL4 w_VAL5 w_VAL6 w_VAL7) (ws : List Jvm.Cond)  (h0 : Heap) (O : Ext Z.heap h0)  :
    MetFree l (⟨"com/example/turnleaf/turnleaf/token/KeyTypeOfTagPinLaw", "expected", "(I)Lcom/example/turnleaf/turnleaf/token/KeyType;"⟩ : MethodName) (head1 (Jvm.Cond.code (⟨"com/example/turnleaf/turnleaf/token/KeyTypeOfTagPinLaw", "expected", "(I)Lcom/example/turnleaf/turnleaf/token/KeyType;"⟩ : MethodName) method_2_code 1 (some (.object "com/example/turnleaf/turnleaf/token/KeyType")) :: ws) ({ frames := 0, cells := 0, slots := 0, locals := 0 } : Room)) (fun a U => a = #[(.int (8 : Int32))] ∧ Z.Warmed39 U.vm ∧ U.heap = h0) (fun _ _ _ _ _ => True) (fun _ U o U' => ∃ v L, o = .returned v ∧ QP Z (.ref w_VAL0) h0 v U'.heap L ∧ FrameEnd U o U' L ({ frames := 0, cells := 0, slots := 0, locals := 0 } : Room).cells ({ frames := 0, cells := 0, slots := 0, locals := 0 } : Room).slots) := by
  refine MetFree.of_bodySF (plainFor_of_name pn_1) hisR ?_
  intro p e s m args below meth c s₁ Bd hml0 hP hK
  obtain ⟨rfl, hZ, hh⟩ := hP
  have CX0 := CX
  obtain ⟨hw, E_VAL0, E_VAL1, E_VAL2, E_VAL3, E_VAL4, E_VAL5, E_VAL6, E_VAL7, O_VAL0, O_VAL1, S_INTEGER, O_VAL2, O_VAL3, O_VAL4, S_DECIMAL, O_VAL5, O_VAL6, O_VAL7, S_NULL, S_SHORT, S_DOUBLE, S_LONG, S_TEXT, S_UUID, S_VAL, E_VAL, V_VAL, -⟩ := CX0
  have hx := Bd.exec
  have hby := Bd.bytes
  have hml : c.maxLocals = 1 := hml0
  have hown : s.vm.findClass "com/example/turnleaf/turnleaf/token/KeyTypeOfTagPinLaw" = some m.cls := findClass_of_methodNamed Bd.named
  have hnm := (name_of_methodNamed Bd.named Bd.method).1
  have hlk : meth.locks = false := BodyLoose.notSynchronized Bd
  have X0 : Stand p l e ({ frames := 0, cells := 0, slots := 0, locals := 0 } : Room) s m #[(.int (8 : Int32))] below meth c s₁ [] 0 0 := Stand.of_body Bd
  have e0 : s₁.heap = h0 := by rw [← hh, Bd.state]; rfl
  have N := Fr.nil Z.heap.size
  show own_Done p.tables e below (own_R (QP Z (.ref w_VAL0) h0) s 0 0) s₁ (entryFrame m #[(.int (8 : Int32))] 1)
  refine own_st (T' := s₁) (F' := (mkF m 0 #[.val (.int (8 : Int32))] [])) (fun t k => castTop (by first | rfl | (simp [entryFrame, mkF, argsToLocals, Value.category]; done)) k) ?_
  refine own_st (T' := s₁) (F' := (mkF m 1 #[.val (.int (8 : Int32))] [(.int (8 : Int32))])) (fun t k => XS.iloadN X0.here hx rfl (hb hby d3_0) rfl k) ?_
  refine own_st (T' := s₁) (F' := (mkF m 2 #[.val (.int (8 : Int32))] [(.int (1 : Int32)), (.int (8 : Int32))])) (fun t k => XS.iconst X0.here hx rfl (hb hby d3_1) k) ?_
  refine own_st (T' := s₁) (F' := (mkF m 9 #[.val (.int (8 : Int32))] [])) (fun t k => XS.icmpYes X0.here hx rfl (pc0 := 2) (pc' := 9) rfl (hb hby d3_2) rfl (feq (by decide : ¬ ((8 : Int32) = (1 : Int32)))).2 (by decide) (by decide) k) ?_
  refine own_st (T' := s₁) (F' := (mkF m 10 #[.val (.int (8 : Int32))] [(.int (8 : Int32))])) (fun t k => XS.iloadN X0.here hx rfl (hb hby d3_9) rfl k) ?_
  refine own_st (T' := s₁) (F' := (mkF m 11 #[.val (.int (8 : Int32))] [(.int (2 : Int32)), (.int (8 : Int32))])) (fun t k => XS.iconst X0.here hx rfl (hb hby d3_10) k) ?_
  refine own_st (T' := s₁) (F' := (mkF m 18 #[.val (.int (8 : Int32))] [])) (fun t k => XS.icmpYes X0.here hx rfl (pc0 := 11) (pc' := 18) rfl (hb hby d3_11) rfl (feq (by decide : ¬ ((8 : Int32) = (2 : Int32)))).2 (by decide) (by decide) k) ?_
  refine own_st (T' := s₁) (F' := (mkF m 19 #[.val (.int (8 : Int32))] [(.int (8 : Int32))])) (fun t k => XS.iloadN X0.here hx rfl (hb hby d3_18) rfl k) ?_
  refine own_st (T' := s₁) (F' := (mkF m 20 #[.val (.int (8 : Int32))] [(.int (3 : Int32)), (.int (8 : Int32))])) (fun t k => XS.iconst X0.here hx rfl (hb hby d3_19) k) ?_
  refine own_st (T' := s₁) (F' := (mkF m 27 #[.val (.int (8 : Int32))] [])) (fun t k => XS.icmpYes X0.here hx rfl (pc0 := 20) (pc' := 27) rfl (hb hby d3_20) rfl (feq (by decide : ¬ ((8 : Int32) = (3 : Int32)))).2 (by decide) (by decide) k) ?_
  refine own_st (T' := s₁) (F' := (mkF m 28 #[.val (.int (8 : Int32))] [(.int (8 : Int32))])) (fun t k => XS.iloadN X0.here hx rfl (hb hby d3_27) rfl k) ?_
  refine own_st (T' := s₁) (F' := (mkF m 29 #[.val (.int (8 : Int32))] [(.int (4 : Int32)), (.int (8 : Int32))])) (fun t k => XS.iconst X0.here hx rfl (hb hby d3_28) k) ?_
  refine own_st (T' := s₁) (F' := (mkF m 36 #[.val (.int (8 : Int32))] [])) (fun t k => XS.icmpYes X0.here hx rfl (pc0 := 29) (pc' := 36) rfl (hb hby d3_29) rfl (feq (by decide : ¬ ((8 : Int32) = (4 : Int32)))).2 (by decide) (by decide) k) ?_
  refine own_st (T' := s₁) (F' := (mkF m 37 #[.val (.int (8 : Int32))] [(.int (8 : Int32))])) (fun t k => XS.iloadN X0.here hx rfl (hb hby d3_36) rfl k) ?_
  refine own_st (T' := s₁) (F' := (mkF m 38 #[.val (.int (8 : Int32))] [(.int (5 : Int32)), (.int (8 : Int32))])) (fun t k => XS.iconst X0.here hx rfl (hb hby d3_37) k) ?_
  refine own_st (T' := s₁) (F' := (mkF m 45 #[.val (.int (8 : Int32))] [])) (fun t k => XS.icmpYes X0.here hx rfl (pc0 := 38) (pc' := 45) rfl (hb hby d3_38) rfl (feq (by decide : ¬ ((8 : Int32) = (5 : Int32)))).2 (by decide) (by decide) k) ?_
  refine own_st (T' := s₁) (F' := (mkF m 46 #[.val (.int (8 : Int32))] [(.int (8 : Int32))])) (fun t k => XS.iloadN X0.here hx rfl (hb hby d3_45) rfl k) ?_
  refine own_st (T' := s₁) (F' := (mkF m 48 #[.val (.int (8 : Int32))] [(.int (6 : Int32)), (.int (8 : Int32))])) (fun t k => XS.bipush X0.here hx rfl (hb hby d3_46) k) ?_
  refine own_st (T' := s₁) (F' := (mkF m 55 #[.val (.int (8 : Int32))] [])) (fun t k => XS.icmpYes X0.here hx rfl (pc0 := 48) (pc' := 55) rfl (hb hby d3_48) rfl (feq (by decide : ¬ ((8 : Int32) = (6 : Int32)))).2 (by decide) (by decide) k) ?_
  refine own_st (T' := s₁) (F' := (mkF m 56 #[.val (.int (8 : Int32))] [(.int (8 : Int32))])) (fun t k => XS.iloadN X0.here hx rfl (hb hby d3_55) rfl k) ?_
  refine own_st (T' := s₁) (F' := (mkF m 58 #[.val (.int (8 : Int32))] [(.int (7 : Int32)), (.int (8 : Int32))])) (fun t k => XS.bipush X0.here hx rfl (hb hby d3_56) k) ?_
  refine own_st (T' := s₁) (F' := (mkF m 65 #[.val (.int (8 : Int32))] [])) (fun t k => XS.icmpYes X0.here hx rfl (pc0 := 58) (pc' := 65) rfl (hb hby d3_58) rfl (feq (by decide : ¬ ((8 : Int32) = (7 : Int32)))).2 (by decide) (by decide) k) ?_
  obtain ⟨T1, X1, e1, st1⟩ := getS2 X0 hx hZ hown (host := "") (Or.inl (hw _ (List.mem_of_getElem? (i := 45) rfl))) Via.refl e0 (S_SHORT.ext O) (g := (mkF m 65 #[.val (.int (8 : Int32))] [])) rfl (hb hby d3_65)
  refine own_st (T' := T1) (F' := (mkF m 68 #[.val (.int (8 : Int32))] [(.ref w_VAL0)])) st1 ?_
  exact own_retA X1 hx (t := (.object "com/example/turnleaf/turnleaf/token/KeyType")) Bd.returns rfl rfl (hb hby d3_68) hlk (by show QP Z (.ref w_VAL0) h0 _ T1.heap _; rw [e1]; exact ⟨rfl, N, rfl⟩) (by decide) (by decide)
theorem d4_0 : decode prog_36_method_4_code 0 = .ok (.aload_n 0, 1) := by decide +kernel
theorem d4_1 : decode prog_36_method_4_code 1 = .ok (.getfield 47, 3) := by decide +kernel
theorem d4_4 : decode prog_36_method_4_code 4 = .ok (.ireturn, 1) := by decide +kernel
set_option maxRecDepth 65536 in
set_option maxHeartbeats 40000000 in
theorem rm4 (l : Launch) (Z : State) (a0 : Array Value) {w_VAL : Addr} {k_VAL : ClassId} {w_VAL0 : Addr} {w_VAL1 : Addr} {w_VAL2 : Addr} {w_VAL3 : Addr} {w_VAL4 : Addr} {w_VAL5 : Addr} {w_VAL6 : Addr} {w_VAL7 : Addr} (CX : Ctx Z a0 w_VAL k_VAL w_VAL0 w_VAL1 w_VAL2 w_VAL3 w_VAL4 w_VAL5 w_VAL6 w_VAL7) (ws : List Jvm.Cond) (a1 : Addr) (r : Int32) (h0 : Heap) (O : Ext Z.heap h0) (F1 : Fld Z h0 a1 "com/example/turnleaf/turnleaf/token/KeyType" "tag" "I" (.int r)) :
    MetFree l (⟨"com/example/turnleaf/turnleaf/token/KeyType", "tag", "()I"⟩ : MethodName) (head1 (Jvm.Cond.code (⟨"com/example/turnleaf/turnleaf/token/KeyType", "tag", "()I"⟩ : MethodName) prog_36_method_4_code 1 (some .int) :: ws) ({ frames := 0, cells := 0, slots := 0, locals := 0 } : Room)) (fun a U => a = #[(.ref a1)] ∧ Z.Warmed39 U.vm ∧ U.heap = h0) (fun _ _ _ _ _ => True) (fun _ U o U' => ∃ v L, o = .returned v ∧ QP Z (.int r) h0 v U'.heap L ∧ FrameEnd U o U' L ({ frames := 0, cells := 0, slots := 0, locals := 0 } : Room).cells ({ frames := 0, cells := 0, slots := 0, locals := 0 } : Room).slots) := by
  refine MetFree.of_bodySF (plainFor_of_name pn_0) hisR ?_
  intro p e s m args below meth c s₁ Bd hml0 hP hK
  obtain ⟨rfl, hZ, hh⟩ := hP
  have CX0 := CX
  obtain ⟨hw, E_VAL0, E_VAL1, E_VAL2, E_VAL3, E_VAL4, E_VAL5, E_VAL6, E_VAL7, O_VAL0, O_VAL1, S_INTEGER, O_VAL2, O_VAL3, O_VAL4, S_DECIMAL, O_VAL5, O_VAL6, O_VAL7, S_NULL, S_SHORT, S_DOUBLE, S_LONG, S_TEXT, S_UUID, S_VAL, E_VAL, V_VAL, -⟩ := CX0
  have hx := Bd.exec
  have hby := Bd.bytes
  have hml : c.maxLocals = 1 := hml0
  have hown : s.vm.findClass "com/example/turnleaf/turnleaf/token/KeyType" = some m.cls := findClass_of_methodNamed Bd.named
  have hnm := (name_of_methodNamed Bd.named Bd.method).1
  have hlk : meth.locks = false := BodyLoose.notSynchronized Bd
  have X0 : Stand p l e ({ frames := 0, cells := 0, slots := 0, locals := 0 } : Room) s m #[(.ref a1)] below meth c s₁ [] 0 0 := Stand.of_body Bd
  have e0 : s₁.heap = h0 := by rw [← hh, Bd.state]; rfl
  have N := Fr.nil Z.heap.size
  show own_Done p.tables e below (own_R (QP Z (.int r) h0) s 0 0) s₁ (entryFrame m #[(.ref a1)] 1)
  refine own_st (T' := s₁) (F' := (mkF m 0 #[.val (.ref a1)] [])) (fun t k => castTop (by first | rfl | (simp [entryFrame, mkF, argsToLocals, Value.category]; done)) k) ?_
  refine own_st (T' := s₁) (F' := (mkF m 1 #[.val (.ref a1)] [(.ref a1)])) (fun t k => XS.aloadN X0.here hx rfl (hb hby d4_0) rfl rfl k) ?_
  obtain ⟨T1, X1, e1, st1⟩ := getF X0 hx hZ hown (host := "") (Or.inl (hw _ (List.mem_of_getElem? (i := 19) rfl))) Via.refl e0 F1 (g := (mkF m 1 #[.val (.ref a1)] [(.ref a1)])) rfl rfl (hb hby d4_1)
  refine own_st (T' := T1) (F' := (mkF m 4 #[.val (.ref a1)] [(.int r)])) st1 ?_
  exact own_retI X1 hx Bd.returns (hb hby d4_4) hlk (by show QP Z (.int r) h0 _ T1.heap _; rw [e1]; exact ⟨rfl, N, rfl⟩) (by decide) (by decide)
theorem pd_1 : parseMethodDescriptor "(I)Lcom/example/turnleaf/turnleaf/token/KeyType;" = some ⟨[.int], some (.object "com/example/turnleaf/turnleaf/token/KeyType")⟩ := by decide +kernel
theorem pd_2 : parseMethodDescriptor "()I" = some ⟨[], some .int⟩ := by decide +kernel
set_option maxRecDepth 65536 in
set_option maxHeartbeats 40000000 in
theorem rm0 (l : Launch) (Z : State) (a0 : Array Value) {w_VAL : Addr} {k_VAL : ClassId} {w_VAL0 : Addr} {w_VAL1 : Addr} {w_VAL2 : Addr} {w_VAL3 : Addr} {w_VAL4 : Addr} {w_VAL5 : Addr} {w_VAL6 : Addr} {w_VAL7 : Addr} (CX : Ctx Z a0 w_VAL k_VAL w_VAL0 w_VAL1 w_VAL2 w_VAL3 w_VAL4 w_VAL5 w_VAL6 w_VAL7) (ws : List Jvm.Cond) (x0 : Int32) (h0 : Heap) (O : Ext Z.heap h0)  :
    MetFree l x (head1 (Jvm.Cond.code x code maxLocals ret :: ws) room_1) (fun a U => a = #[(.int x0)] ∧ Z.Warmed39 U.vm ∧ U.heap = h0) (fun _ _ _ _ _ => True) (fun _ U o U' => ∃ v L, o = .returned v ∧ Q0 Z v U'.heap L ∧ FrameEnd U o U' L room_1.cells room_1.slots) := by
  refine MetFree.of_bodySF (plainFor_of_name pn_1) hisR ?_
  intro p e s m args below meth c s₁ Bd hml0 hP hK
  obtain ⟨rfl, hZ, hh⟩ := hP
  have CX0 := CX
  obtain ⟨hw, E_VAL0, E_VAL1, E_VAL2, E_VAL3, E_VAL4, E_VAL5, E_VAL6, E_VAL7, O_VAL0, O_VAL1, S_INTEGER, O_VAL2, O_VAL3, O_VAL4, S_DECIMAL, O_VAL5, O_VAL6, O_VAL7, S_NULL, S_SHORT, S_DOUBLE, S_LONG, S_TEXT, S_UUID, S_VAL, E_VAL, V_VAL, -⟩ := CX0
  have hx := Bd.exec
  have hby := Bd.bytes
  have hml : c.maxLocals = 3 := hml0
  have hown : s.vm.findClass "com/example/turnleaf/turnleaf/token/KeyTypeOfTagPinLaw" = some m.cls := findClass_of_methodNamed Bd.named
  have hnm := (name_of_methodNamed Bd.named Bd.method).1
  have hlk : meth.locks = false := BodyLoose.notSynchronized Bd
  have X0 : Stand p l e room_1 s m #[(.int x0)] below meth c s₁ [] 0 0 := Stand.of_body Bd
  have e0 : s₁.heap = h0 := by rw [← hh, Bd.state]; rfl
  have N := Fr.nil Z.heap.size
  show own_Done p.tables e below (own_R (Q0 Z) s 16 128) s₁ (entryFrame m #[(.int x0)] maxLocals)
  refine own_st (T' := s₁) (F' := (mkF m 0 #[.val (.int x0), .unset, .unset] [])) (fun t k => castTop (by first | rfl | (simp [entryFrame, mkF, argsToLocals, Value.category, maxLocals]; done)) k) ?_
  refine own_st (T' := s₁) (F' := (mkF m 1 #[.val (.int x0), .unset, .unset] [(.int x0)])) (fun t k => XS.iloadN X0.here hx rfl (hb hby at_0) rfl k) ?_
  refine own_st (T' := s₁) (F' := (mkF m 3 #[.val (.int x0), .unset, .unset] [(.int (7 : Int32)), (.int x0)])) (fun t k => XS.bipush X0.here hx rfl (hb hby at_1) k) ?_
  refine own_st (T' := s₁) (F' := (mkF m 4 #[.val (.int x0), .unset, .unset] [(.int (x0 &&& (7 : Int32)))])) (fun t k => XS.iand X0.here hx rfl (hb hby at_3) rfl k) ?_
  refine own_st (T' := s₁) (F' := (mkF m 5 #[.val (.int x0), .unset, .unset] [(.int (1 : Int32)), (.int (x0 &&& (7 : Int32)))])) (fun t k => XS.iconst X0.here hx rfl (hb hby at_4) k) ?_
  refine own_st (T' := s₁) (F' := (mkF m 6 #[.val (.int x0), .unset, .unset] [(.int ((x0 &&& (7 : Int32)) + (1 : Int32)))])) (fun t k => XS.iadd X0.here hx rfl (hb hby at_5) rfl k) ?_
  refine own_st (T' := s₁) (F' := (mkF m 7 #[.val (.int x0), .val (.int ((x0 &&& (7 : Int32)) + (1 : Int32))), .unset] [])) (fun t k => XS.istoreN X0.here hx rfl (hb hby at_6) rfl (l' := #[.val (.int x0), .val (.int ((x0 &&& (7 : Int32)) + (1 : Int32))), .unset]) rfl k) ?_
  by_cases hk0_1 : (x0 &&& (7 : Int32)) = (0 : Int32)
  · have ht : ((x0 &&& (7 : Int32)) + (1 : Int32)) = (1 : Int32) := by rw [hk0_1]; rfl
    rw [ht]
    refine own_st (T' := s₁) (F' := (mkF m 8 #[.val (.int x0), .val (.int (1 : Int32)), .unset] [(.int (1 : Int32))])) (fun t k => XS.iloadN X0.here hx rfl (hb hby at_7) rfl k) ?_
    obtain ⟨v2, _, ⟨T2, L2, k2, n2⟩, -, X2, ⟨Lc2, hQ2, l2, y2, z2⟩, st2⟩ := Jvm.LawKit.callS X0 hx (y := (⟨"com/example/turnleaf/turnleaf/token/KeyType", "ofTag", "(I)Lcom/example/turnleaf/turnleaf/token/KeyType;"⟩ : MethodName)) hown (mvT hZ (hw _ (List.mem_of_getElem? (i := 0) rfl))) (mvT hZ (hw _ (List.mem_of_getElem? (i := 1) rfl))) (mvT hZ (hw _ (List.mem_of_getElem? (i := 2) rfl))) (mvT hZ (hw _ (List.mem_of_getElem? (i := 3) rfl))) (by decide) (backOf (W := 0) (rmO_1 l Z a0 CX [] h0 O) hZ (hw _ (List.mem_of_getElem? (i := 3) rfl)) (hw _ (List.mem_of_getElem? (i := 2) rfl)) (by decide) (by decide)) (g := (mkF m 8 #[.val (.int x0), .val (.int (1 : Int32)), .unset] [(.int (1 : Int32))])) rfl (by rw [hml]; rfl) (argsL := [(.int (1 : Int32))]) (rest := []) (lenOf pd_1 rfl) rfl (by show 2 * 0 + _ ≤ _; exact Nat.le_of_eq rfl) (hb hby at_8) (fun _ _ => ⟨rfl, e0, (by decide : 0 + 1 ≤ _), (by decide : 0 + 8 ≤ _)⟩)
    dsimp only [Pt.U, Pt.locs, Pt.cells, Pt.slots] at X2 l2 y2 z2 st2 hQ2
    subst l2 y2 z2
    obtain ⟨rfl, N2q, E2⟩ := hQ2
    have N := Fr.app N N2q
    have O := own_ext_trans O E2
    refine own_st (T' := T2) (F' := (mkF m 11 #[.val (.int x0), .val (.int (1 : Int32)), .unset] [(.ref w_VAL1)])) st2 ?_
    refine own_st (T' := T2) (F' := (mkF m 12 #[.val (.int x0), .val (.int (1 : Int32)), .val (.ref w_VAL1)] [])) (fun t k => XS.astoreN X2.here hx rfl (hb hby at_11) rfl rfl (l' := #[.val (.int x0), .val (.int (1 : Int32)), .val (.ref w_VAL1)]) rfl k) ?_
    refine own_st (T' := T2) (F' := (mkF m 13 #[.val (.int x0), .val (.int (1 : Int32)), .val (.ref w_VAL1)] [(.ref w_VAL1)])) (fun t k => XS.aloadN X2.here hx rfl (hb hby at_12) rfl rfl k) ?_
    refine own_st (T' := T2) (F' := (mkF m 14 #[.val (.int x0), .val (.int (1 : Int32)), .val (.ref w_VAL1)] [(.int (1 : Int32)), (.ref w_VAL1)])) (fun t k => XS.iloadN X2.here hx rfl (hb hby at_13) rfl k) ?_
    obtain ⟨v3, _, ⟨T3, L3, k3, n3⟩, -, X3, ⟨Lc3, hQ3, l3, y3, z3⟩, st3⟩ := Jvm.LawKit.callS X2 hx (y := (⟨"com/example/turnleaf/turnleaf/token/KeyTypeOfTagPinLaw", "expected", "(I)Lcom/example/turnleaf/turnleaf/token/KeyType;"⟩ : MethodName)) hown (mvT hZ (hw _ (List.mem_of_getElem? (i := 22) rfl))) (mvT hZ (hw _ (List.mem_of_getElem? (i := 23) rfl))) (mvT hZ (hw _ (List.mem_of_getElem? (i := 24) rfl))) (mvT hZ (hw _ (List.mem_of_getElem? (i := 25) rfl))) (by decide) (backOf (W := 1) (rmX_1 l Z a0 CX [] T2.heap O) hZ (hw _ (List.mem_of_getElem? (i := 25) rfl)) (hw _ (List.mem_of_getElem? (i := 24) rfl)) (by decide) (by decide)) (g := (mkF m 14 #[.val (.int x0), .val (.int (1 : Int32)), .val (.ref w_VAL1)] [(.int (1 : Int32)), (.ref w_VAL1)])) rfl (by rw [hml]; rfl) (argsL := [(.int (1 : Int32))]) (rest := [(.ref w_VAL1)]) (lenOf pd_1 rfl) rfl (by show 2 * 0 + _ ≤ _; exact Nat.le_of_eq rfl) (hb hby at_14) (fun _ _ => ⟨rfl, rfl, (by decide : 1 + 0 ≤ _), (by decide : 8 + 0 ≤ _)⟩)
    dsimp only [Pt.U, Pt.locs, Pt.cells, Pt.slots] at X3 l3 y3 z3 st3 hQ3
    subst l3 y3 z3
    obtain ⟨rfl, N3q, e3⟩ := hQ3
    have N := Fr.app N N3q
    refine own_st (T' := T3) (F' := (mkF m 17 #[.val (.int x0), .val (.int (1 : Int32)), .val (.ref w_VAL1)] [(.ref w_VAL1), (.ref w_VAL1)])) st3 ?_
    refine own_st (T' := T3) (F' := (mkF m 20 #[.val (.int x0), .val (.int (1 : Int32)), .val (.ref w_VAL1)] [])) (fun t k => Jvm.RoadKit.acmp (g := (mkF m 17 #[.val (.int x0), .val (.int (1 : Int32)), .val (.ref w_VAL1)] [(.ref w_VAL1), (.ref w_VAL1)])) X3 hx rfl rfl rfl (pc0 := 17) (pc' := 20) (same := true) rfl (hb hby at_17) rfl (decide_eq_true rfl) (by decide) (by decide) k) ?_
    refine own_st (T' := T3) (F' := (mkF m 21 #[.val (.int x0), .val (.int (1 : Int32)), .val (.ref w_VAL1)] [(.ref w_VAL1)])) (fun t k => XS.aloadN X3.here hx rfl (hb hby at_20) rfl rfl k) ?_
    obtain ⟨cq4, kq4, q4a, q4b, q4c⟩ := isOf hZ e3 (E_VAL1.ext O)
    obtain ⟨v4, _, ⟨T4, L4, k4, n4⟩, -, X4, ⟨Lc4, hQ4, l4, y4, z4⟩, st4⟩ := X3.virtualBack hx (y := (⟨"com/example/turnleaf/turnleaf/token/KeyType", "tag", "()I"⟩ : MethodName)) (z := (⟨"com/example/turnleaf/turnleaf/token/KeyType", "tag", "()I"⟩ : MethodName)) hown (mvT hZ (hw _ (List.mem_of_getElem? (i := 28) rfl))) (mvT hZ (hw _ (List.mem_of_getElem? (i := 29) rfl))) (notFace_of_selects (args := #[]) (mvT hZ (hw _ (List.mem_of_getElem? (i := 31) rfl)))) (mvT hZ (hw _ (List.mem_of_getElem? (i := 31) rfl))) (mvT hZ (hw _ (List.mem_of_getElem? (i := 30) rfl))) (by decide) (backOf (W := 0) (rm4 l Z a0 CX [] w_VAL1 (1 : Int32) T2.heap O (O_VAL1.ext O)) hZ (hw _ (List.mem_of_getElem? (i := 32) rfl)) (hw _ (List.mem_of_getElem? (i := 2) rfl)) (by decide) (by decide)) q4a q4c (g := (mkF m 21 #[.val (.int x0), .val (.int (1 : Int32)), .val (.ref w_VAL1)] [(.ref w_VAL1)])) rfl (by rw [hml]; rfl) (Steps.refl _) (argsL := []) (rest := []) (lenOf pd_2 rfl) rfl (by show 2 * 0 + _ ≤ _; exact Nat.le_of_eq rfl) (hb hby at_21) (fun _ _ => ⟨rfl, e3, (by decide : 1 + 0 ≤ _), (by decide : 8 + 0 ≤ _)⟩)
    dsimp only [Pt.U, Pt.locs, Pt.cells, Pt.slots] at X4 l4 y4 z4 st4 hQ4
    subst l4 y4 z4
    obtain ⟨rfl, N4q, e4⟩ := hQ4
    have N := Fr.app N N4q
    refine own_tr (T' := T4) (F' := (mkF m 24 #[.val (.int x0), .val (.int (1 : Int32)), .val (.ref w_VAL1)] [(.int (1 : Int32))])) st4 ?_
    refine own_st (T' := T4) (F' := (mkF m 25 #[.val (.int x0), .val (.int (1 : Int32)), .val (.ref w_VAL1)] [(.int (1 : Int32)), (.int (1 : Int32))])) (fun t k => XS.iloadN X4.here hx rfl (hb hby at_24) rfl k) ?_
    refine own_st (T' := T4) (F' := (mkF m 28 #[.val (.int x0), .val (.int (1 : Int32)), .val (.ref w_VAL1)] [])) (fun t k => XS.icmpNo X4.here hx rfl (hb hby at_25) rfl (teq rfl).2 k) ?_
    refine own_st (T' := T4) (F' := (mkF m 29 #[.val (.int x0), .val (.int (1 : Int32)), .val (.ref w_VAL1)] [(.int (1 : Int32))])) (fun t k => XS.iconst X4.here hx rfl (hb hby at_28) k) ?_
    refine own_st (T' := T4) (F' := (mkF m 33 #[.val (.int x0), .val (.int (1 : Int32)), .val (.ref w_VAL1)] [(.int (1 : Int32))])) (fun t k => XS.goto X4.here hx rfl (pc0 := 29) (pc' := 33) rfl (hb hby at_29) (by decide) (by decide) k) ?_
    exact own_retN X4 hx (t := .boolean) Bd.returns (by simp) (by decide) (hb hby at_33) hlk (by show Q0 Z _ T4.heap _; rw [e4]; exact ⟨rfl, N⟩) (by decide) (by decide)
  · by_cases hk1_5 : (x0 &&& (7 : Int32)) = (1 : Int32)
    · have ht : ((x0 &&& (7 : Int32)) + (1 : Int32)) = (2 : Int32) := by rw [hk1_5]; rfl
      rw [ht]
      refine own_st (T' := s₁) (F' := (mkF m 8 #[.val (.int x0), .val (.int (2 : Int32)), .unset] [(.int (2 : Int32))])) (fun t k => XS.iloadN X0.here hx rfl (hb hby at_7) rfl k) ?_
      obtain ⟨v6, _, ⟨T6, L6, k6, n6⟩, -, X6, ⟨Lc6, hQ6, l6, y6, z6⟩, st6⟩ := Jvm.LawKit.callS X0 hx (y := (⟨"com/example/turnleaf/turnleaf/token/KeyType", "ofTag", "(I)Lcom/example/turnleaf/turnleaf/token/KeyType;"⟩ : MethodName)) hown (mvT hZ (hw _ (List.mem_of_getElem? (i := 0) rfl))) (mvT hZ (hw _ (List.mem_of_getElem? (i := 1) rfl))) (mvT hZ (hw _ (List.mem_of_getElem? (i := 2) rfl))) (mvT hZ (hw _ (List.mem_of_getElem? (i := 3) rfl))) (by decide) (backOf (W := 0) (rmO_2 l Z a0 CX [] h0 O) hZ (hw _ (List.mem_of_getElem? (i := 3) rfl)) (hw _ (List.mem_of_getElem? (i := 2) rfl)) (by decide) (by decide)) (g := (mkF m 8 #[.val (.int x0), .val (.int (2 : Int32)), .unset] [(.int (2 : Int32))])) rfl (by rw [hml]; rfl) (argsL := [(.int (2 : Int32))]) (rest := []) (lenOf pd_1 rfl) rfl (by show 2 * 0 + _ ≤ _; exact Nat.le_of_eq rfl) (hb hby at_8) (fun _ _ => ⟨rfl, e0, (by decide : 0 + 1 ≤ _), (by decide : 0 + 8 ≤ _)⟩)
      dsimp only [Pt.U, Pt.locs, Pt.cells, Pt.slots] at X6 l6 y6 z6 st6 hQ6
      subst l6 y6 z6
      obtain ⟨rfl, N6q, E6⟩ := hQ6
      have N := Fr.app N N6q
      have O := own_ext_trans O E6
      refine own_st (T' := T6) (F' := (mkF m 11 #[.val (.int x0), .val (.int (2 : Int32)), .unset] [(.ref w_VAL2)])) st6 ?_
      refine own_st (T' := T6) (F' := (mkF m 12 #[.val (.int x0), .val (.int (2 : Int32)), .val (.ref w_VAL2)] [])) (fun t k => XS.astoreN X6.here hx rfl (hb hby at_11) rfl rfl (l' := #[.val (.int x0), .val (.int (2 : Int32)), .val (.ref w_VAL2)]) rfl k) ?_
      refine own_st (T' := T6) (F' := (mkF m 13 #[.val (.int x0), .val (.int (2 : Int32)), .val (.ref w_VAL2)] [(.ref w_VAL2)])) (fun t k => XS.aloadN X6.here hx rfl (hb hby at_12) rfl rfl k) ?_
      refine own_st (T' := T6) (F' := (mkF m 14 #[.val (.int x0), .val (.int (2 : Int32)), .val (.ref w_VAL2)] [(.int (2 : Int32)), (.ref w_VAL2)])) (fun t k => XS.iloadN X6.here hx rfl (hb hby at_13) rfl k) ?_
      obtain ⟨v7, _, ⟨T7, L7, k7, n7⟩, -, X7, ⟨Lc7, hQ7, l7, y7, z7⟩, st7⟩ := Jvm.LawKit.callS X6 hx (y := (⟨"com/example/turnleaf/turnleaf/token/KeyTypeOfTagPinLaw", "expected", "(I)Lcom/example/turnleaf/turnleaf/token/KeyType;"⟩ : MethodName)) hown (mvT hZ (hw _ (List.mem_of_getElem? (i := 22) rfl))) (mvT hZ (hw _ (List.mem_of_getElem? (i := 23) rfl))) (mvT hZ (hw _ (List.mem_of_getElem? (i := 24) rfl))) (mvT hZ (hw _ (List.mem_of_getElem? (i := 25) rfl))) (by decide) (backOf (W := 1) (rmX_2 l Z a0 CX [] T6.heap O) hZ (hw _ (List.mem_of_getElem? (i := 25) rfl)) (hw _ (List.mem_of_getElem? (i := 24) rfl)) (by decide) (by decide)) (g := (mkF m 14 #[.val (.int x0), .val (.int (2 : Int32)), .val (.ref w_VAL2)] [(.int (2 : Int32)), (.ref w_VAL2)])) rfl (by rw [hml]; rfl) (argsL := [(.int (2 : Int32))]) (rest := [(.ref w_VAL2)]) (lenOf pd_1 rfl) rfl (by show 2 * 0 + _ ≤ _; exact Nat.le_of_eq rfl) (hb hby at_14) (fun _ _ => ⟨rfl, rfl, (by decide : 1 + 0 ≤ _), (by decide : 8 + 0 ≤ _)⟩)
      dsimp only [Pt.U, Pt.locs, Pt.cells, Pt.slots] at X7 l7 y7 z7 st7 hQ7
      subst l7 y7 z7
      obtain ⟨rfl, N7q, e7⟩ := hQ7
      have N := Fr.app N N7q
      refine own_st (T' := T7) (F' := (mkF m 17 #[.val (.int x0), .val (.int (2 : Int32)), .val (.ref w_VAL2)] [(.ref w_VAL2), (.ref w_VAL2)])) st7 ?_
      refine own_st (T' := T7) (F' := (mkF m 20 #[.val (.int x0), .val (.int (2 : Int32)), .val (.ref w_VAL2)] [])) (fun t k => Jvm.RoadKit.acmp (g := (mkF m 17 #[.val (.int x0), .val (.int (2 : Int32)), .val (.ref w_VAL2)] [(.ref w_VAL2), (.ref w_VAL2)])) X7 hx rfl rfl rfl (pc0 := 17) (pc' := 20) (same := true) rfl (hb hby at_17) rfl (decide_eq_true rfl) (by decide) (by decide) k) ?_
      refine own_st (T' := T7) (F' := (mkF m 21 #[.val (.int x0), .val (.int (2 : Int32)), .val (.ref w_VAL2)] [(.ref w_VAL2)])) (fun t k => XS.aloadN X7.here hx rfl (hb hby at_20) rfl rfl k) ?_
      obtain ⟨cq8, kq8, q8a, q8b, q8c⟩ := isOf hZ e7 (E_VAL2.ext O)
      obtain ⟨v8, _, ⟨T8, L8, k8, n8⟩, -, X8, ⟨Lc8, hQ8, l8, y8, z8⟩, st8⟩ := X7.virtualBack hx (y := (⟨"com/example/turnleaf/turnleaf/token/KeyType", "tag", "()I"⟩ : MethodName)) (z := (⟨"com/example/turnleaf/turnleaf/token/KeyType", "tag", "()I"⟩ : MethodName)) hown (mvT hZ (hw _ (List.mem_of_getElem? (i := 28) rfl))) (mvT hZ (hw _ (List.mem_of_getElem? (i := 29) rfl))) (notFace_of_selects (args := #[]) (mvT hZ (hw _ (List.mem_of_getElem? (i := 53) rfl)))) (mvT hZ (hw _ (List.mem_of_getElem? (i := 53) rfl))) (mvT hZ (hw _ (List.mem_of_getElem? (i := 30) rfl))) (by decide) (backOf (W := 0) (rm4 l Z a0 CX [] w_VAL2 (2 : Int32) T6.heap O (O_VAL2.ext O)) hZ (hw _ (List.mem_of_getElem? (i := 32) rfl)) (hw _ (List.mem_of_getElem? (i := 2) rfl)) (by decide) (by decide)) q8a q8c (g := (mkF m 21 #[.val (.int x0), .val (.int (2 : Int32)), .val (.ref w_VAL2)] [(.ref w_VAL2)])) rfl (by rw [hml]; rfl) (Steps.refl _) (argsL := []) (rest := []) (lenOf pd_2 rfl) rfl (by show 2 * 0 + _ ≤ _; exact Nat.le_of_eq rfl) (hb hby at_21) (fun _ _ => ⟨rfl, e7, (by decide : 1 + 0 ≤ _), (by decide : 8 + 0 ≤ _)⟩)
      dsimp only [Pt.U, Pt.locs, Pt.cells, Pt.slots] at X8 l8 y8 z8 st8 hQ8
      subst l8 y8 z8
      obtain ⟨rfl, N8q, e8⟩ := hQ8
      have N := Fr.app N N8q
      refine own_tr (T' := T8) (F' := (mkF m 24 #[.val (.int x0), .val (.int (2 : Int32)), .val (.ref w_VAL2)] [(.int (2 : Int32))])) st8 ?_
      refine own_st (T' := T8) (F' := (mkF m 25 #[.val (.int x0), .val (.int (2 : Int32)), .val (.ref w_VAL2)] [(.int (2 : Int32)), (.int (2 : Int32))])) (fun t k => XS.iloadN X8.here hx rfl (hb hby at_24) rfl k) ?_
      refine own_st (T' := T8) (F' := (mkF m 28 #[.val (.int x0), .val (.int (2 : Int32)), .val (.ref w_VAL2)] [])) (fun t k => XS.icmpNo X8.here hx rfl (hb hby at_25) rfl (teq rfl).2 k) ?_
      refine own_st (T' := T8) (F' := (mkF m 29 #[.val (.int x0), .val (.int (2 : Int32)), .val (.ref w_VAL2)] [(.int (1 : Int32))])) (fun t k => XS.iconst X8.here hx rfl (hb hby at_28) k) ?_
      refine own_st (T' := T8) (F' := (mkF m 33 #[.val (.int x0), .val (.int (2 : Int32)), .val (.ref w_VAL2)] [(.int (1 : Int32))])) (fun t k => XS.goto X8.here hx rfl (pc0 := 29) (pc' := 33) rfl (hb hby at_29) (by decide) (by decide) k) ?_
      exact own_retN X8 hx (t := .boolean) Bd.returns (by simp) (by decide) (hb hby at_33) hlk (by show Q0 Z _ T8.heap _; rw [e8]; exact ⟨rfl, N⟩) (by decide) (by decide)
    · by_cases hk2_9 : (x0 &&& (7 : Int32)) = (2 : Int32)
      · have ht : ((x0 &&& (7 : Int32)) + (1 : Int32)) = (3 : Int32) := by rw [hk2_9]; rfl
        rw [ht]
        refine own_st (T' := s₁) (F' := (mkF m 8 #[.val (.int x0), .val (.int (3 : Int32)), .unset] [(.int (3 : Int32))])) (fun t k => XS.iloadN X0.here hx rfl (hb hby at_7) rfl k) ?_
        obtain ⟨v10, _, ⟨T10, L10, k10, n10⟩, -, X10, ⟨Lc10, hQ10, l10, y10, z10⟩, st10⟩ := Jvm.LawKit.callS X0 hx (y := (⟨"com/example/turnleaf/turnleaf/token/KeyType", "ofTag", "(I)Lcom/example/turnleaf/turnleaf/token/KeyType;"⟩ : MethodName)) hown (mvT hZ (hw _ (List.mem_of_getElem? (i := 0) rfl))) (mvT hZ (hw _ (List.mem_of_getElem? (i := 1) rfl))) (mvT hZ (hw _ (List.mem_of_getElem? (i := 2) rfl))) (mvT hZ (hw _ (List.mem_of_getElem? (i := 3) rfl))) (by decide) (backOf (W := 0) (rmO_3 l Z a0 CX [] h0 O) hZ (hw _ (List.mem_of_getElem? (i := 3) rfl)) (hw _ (List.mem_of_getElem? (i := 2) rfl)) (by decide) (by decide)) (g := (mkF m 8 #[.val (.int x0), .val (.int (3 : Int32)), .unset] [(.int (3 : Int32))])) rfl (by rw [hml]; rfl) (argsL := [(.int (3 : Int32))]) (rest := []) (lenOf pd_1 rfl) rfl (by show 2 * 0 + _ ≤ _; exact Nat.le_of_eq rfl) (hb hby at_8) (fun _ _ => ⟨rfl, e0, (by decide : 0 + 1 ≤ _), (by decide : 0 + 8 ≤ _)⟩)
        dsimp only [Pt.U, Pt.locs, Pt.cells, Pt.slots] at X10 l10 y10 z10 st10 hQ10
        subst l10 y10 z10
        obtain ⟨rfl, N10q, E10⟩ := hQ10
        have N := Fr.app N N10q
        have O := own_ext_trans O E10
        refine own_st (T' := T10) (F' := (mkF m 11 #[.val (.int x0), .val (.int (3 : Int32)), .unset] [(.ref w_VAL3)])) st10 ?_
        refine own_st (T' := T10) (F' := (mkF m 12 #[.val (.int x0), .val (.int (3 : Int32)), .val (.ref w_VAL3)] [])) (fun t k => XS.astoreN X10.here hx rfl (hb hby at_11) rfl rfl (l' := #[.val (.int x0), .val (.int (3 : Int32)), .val (.ref w_VAL3)]) rfl k) ?_
        refine own_st (T' := T10) (F' := (mkF m 13 #[.val (.int x0), .val (.int (3 : Int32)), .val (.ref w_VAL3)] [(.ref w_VAL3)])) (fun t k => XS.aloadN X10.here hx rfl (hb hby at_12) rfl rfl k) ?_
        refine own_st (T' := T10) (F' := (mkF m 14 #[.val (.int x0), .val (.int (3 : Int32)), .val (.ref w_VAL3)] [(.int (3 : Int32)), (.ref w_VAL3)])) (fun t k => XS.iloadN X10.here hx rfl (hb hby at_13) rfl k) ?_
        obtain ⟨v11, _, ⟨T11, L11, k11, n11⟩, -, X11, ⟨Lc11, hQ11, l11, y11, z11⟩, st11⟩ := Jvm.LawKit.callS X10 hx (y := (⟨"com/example/turnleaf/turnleaf/token/KeyTypeOfTagPinLaw", "expected", "(I)Lcom/example/turnleaf/turnleaf/token/KeyType;"⟩ : MethodName)) hown (mvT hZ (hw _ (List.mem_of_getElem? (i := 22) rfl))) (mvT hZ (hw _ (List.mem_of_getElem? (i := 23) rfl))) (mvT hZ (hw _ (List.mem_of_getElem? (i := 24) rfl))) (mvT hZ (hw _ (List.mem_of_getElem? (i := 25) rfl))) (by decide) (backOf (W := 1) (rmX_3 l Z a0 CX [] T10.heap O) hZ (hw _ (List.mem_of_getElem? (i := 25) rfl)) (hw _ (List.mem_of_getElem? (i := 24) rfl)) (by decide) (by decide)) (g := (mkF m 14 #[.val (.int x0), .val (.int (3 : Int32)), .val (.ref w_VAL3)] [(.int (3 : Int32)), (.ref w_VAL3)])) rfl (by rw [hml]; rfl) (argsL := [(.int (3 : Int32))]) (rest := [(.ref w_VAL3)]) (lenOf pd_1 rfl) rfl (by show 2 * 0 + _ ≤ _; exact Nat.le_of_eq rfl) (hb hby at_14) (fun _ _ => ⟨rfl, rfl, (by decide : 1 + 0 ≤ _), (by decide : 8 + 0 ≤ _)⟩)
        dsimp only [Pt.U, Pt.locs, Pt.cells, Pt.slots] at X11 l11 y11 z11 st11 hQ11
        subst l11 y11 z11
        obtain ⟨rfl, N11q, e11⟩ := hQ11
        have N := Fr.app N N11q
        refine own_st (T' := T11) (F' := (mkF m 17 #[.val (.int x0), .val (.int (3 : Int32)), .val (.ref w_VAL3)] [(.ref w_VAL3), (.ref w_VAL3)])) st11 ?_
        refine own_st (T' := T11) (F' := (mkF m 20 #[.val (.int x0), .val (.int (3 : Int32)), .val (.ref w_VAL3)] [])) (fun t k => Jvm.RoadKit.acmp (g := (mkF m 17 #[.val (.int x0), .val (.int (3 : Int32)), .val (.ref w_VAL3)] [(.ref w_VAL3), (.ref w_VAL3)])) X11 hx rfl rfl rfl (pc0 := 17) (pc' := 20) (same := true) rfl (hb hby at_17) rfl (decide_eq_true rfl) (by decide) (by decide) k) ?_
        refine own_st (T' := T11) (F' := (mkF m 21 #[.val (.int x0), .val (.int (3 : Int32)), .val (.ref w_VAL3)] [(.ref w_VAL3)])) (fun t k => XS.aloadN X11.here hx rfl (hb hby at_20) rfl rfl k) ?_
        obtain ⟨cq12, kq12, q12a, q12b, q12c⟩ := isOf hZ e11 (E_VAL3.ext O)
        obtain ⟨v12, _, ⟨T12, L12, k12, n12⟩, -, X12, ⟨Lc12, hQ12, l12, y12, z12⟩, st12⟩ := X11.virtualBack hx (y := (⟨"com/example/turnleaf/turnleaf/token/KeyType", "tag", "()I"⟩ : MethodName)) (z := (⟨"com/example/turnleaf/turnleaf/token/KeyType", "tag", "()I"⟩ : MethodName)) hown (mvT hZ (hw _ (List.mem_of_getElem? (i := 28) rfl))) (mvT hZ (hw _ (List.mem_of_getElem? (i := 29) rfl))) (notFace_of_selects (args := #[]) (mvT hZ (hw _ (List.mem_of_getElem? (i := 50) rfl)))) (mvT hZ (hw _ (List.mem_of_getElem? (i := 50) rfl))) (mvT hZ (hw _ (List.mem_of_getElem? (i := 30) rfl))) (by decide) (backOf (W := 0) (rm4 l Z a0 CX [] w_VAL3 (3 : Int32) T10.heap O (O_VAL3.ext O)) hZ (hw _ (List.mem_of_getElem? (i := 32) rfl)) (hw _ (List.mem_of_getElem? (i := 2) rfl)) (by decide) (by decide)) q12a q12c (g := (mkF m 21 #[.val (.int x0), .val (.int (3 : Int32)), .val (.ref w_VAL3)] [(.ref w_VAL3)])) rfl (by rw [hml]; rfl) (Steps.refl _) (argsL := []) (rest := []) (lenOf pd_2 rfl) rfl (by show 2 * 0 + _ ≤ _; exact Nat.le_of_eq rfl) (hb hby at_21) (fun _ _ => ⟨rfl, e11, (by decide : 1 + 0 ≤ _), (by decide : 8 + 0 ≤ _)⟩)
        dsimp only [Pt.U, Pt.locs, Pt.cells, Pt.slots] at X12 l12 y12 z12 st12 hQ12
        subst l12 y12 z12
        obtain ⟨rfl, N12q, e12⟩ := hQ12
        have N := Fr.app N N12q
        refine own_tr (T' := T12) (F' := (mkF m 24 #[.val (.int x0), .val (.int (3 : Int32)), .val (.ref w_VAL3)] [(.int (3 : Int32))])) st12 ?_
        refine own_st (T' := T12) (F' := (mkF m 25 #[.val (.int x0), .val (.int (3 : Int32)), .val (.ref w_VAL3)] [(.int (3 : Int32)), (.int (3 : Int32))])) (fun t k => XS.iloadN X12.here hx rfl (hb hby at_24) rfl k) ?_
        refine own_st (T' := T12) (F' := (mkF m 28 #[.val (.int x0), .val (.int (3 : Int32)), .val (.ref w_VAL3)] [])) (fun t k => XS.icmpNo X12.here hx rfl (hb hby at_25) rfl (teq rfl).2 k) ?_
        refine own_st (T' := T12) (F' := (mkF m 29 #[.val (.int x0), .val (.int (3 : Int32)), .val (.ref w_VAL3)] [(.int (1 : Int32))])) (fun t k => XS.iconst X12.here hx rfl (hb hby at_28) k) ?_
        refine own_st (T' := T12) (F' := (mkF m 33 #[.val (.int x0), .val (.int (3 : Int32)), .val (.ref w_VAL3)] [(.int (1 : Int32))])) (fun t k => XS.goto X12.here hx rfl (pc0 := 29) (pc' := 33) rfl (hb hby at_29) (by decide) (by decide) k) ?_
        exact own_retN X12 hx (t := .boolean) Bd.returns (by simp) (by decide) (hb hby at_33) hlk (by show Q0 Z _ T12.heap _; rw [e12]; exact ⟨rfl, N⟩) (by decide) (by decide)
      · by_cases hk3_13 : (x0 &&& (7 : Int32)) = (3 : Int32)
        · have ht : ((x0 &&& (7 : Int32)) + (1 : Int32)) = (4 : Int32) := by rw [hk3_13]; rfl
          rw [ht]
          refine own_st (T' := s₁) (F' := (mkF m 8 #[.val (.int x0), .val (.int (4 : Int32)), .unset] [(.int (4 : Int32))])) (fun t k => XS.iloadN X0.here hx rfl (hb hby at_7) rfl k) ?_
          obtain ⟨v14, _, ⟨T14, L14, k14, n14⟩, -, X14, ⟨Lc14, hQ14, l14, y14, z14⟩, st14⟩ := Jvm.LawKit.callS X0 hx (y := (⟨"com/example/turnleaf/turnleaf/token/KeyType", "ofTag", "(I)Lcom/example/turnleaf/turnleaf/token/KeyType;"⟩ : MethodName)) hown (mvT hZ (hw _ (List.mem_of_getElem? (i := 0) rfl))) (mvT hZ (hw _ (List.mem_of_getElem? (i := 1) rfl))) (mvT hZ (hw _ (List.mem_of_getElem? (i := 2) rfl))) (mvT hZ (hw _ (List.mem_of_getElem? (i := 3) rfl))) (by decide) (backOf (W := 0) (rmO_4 l Z a0 CX [] h0 O) hZ (hw _ (List.mem_of_getElem? (i := 3) rfl)) (hw _ (List.mem_of_getElem? (i := 2) rfl)) (by decide) (by decide)) (g := (mkF m 8 #[.val (.int x0), .val (.int (4 : Int32)), .unset] [(.int (4 : Int32))])) rfl (by rw [hml]; rfl) (argsL := [(.int (4 : Int32))]) (rest := []) (lenOf pd_1 rfl) rfl (by show 2 * 0 + _ ≤ _; exact Nat.le_of_eq rfl) (hb hby at_8) (fun _ _ => ⟨rfl, e0, (by decide : 0 + 1 ≤ _), (by decide : 0 + 8 ≤ _)⟩)
          dsimp only [Pt.U, Pt.locs, Pt.cells, Pt.slots] at X14 l14 y14 z14 st14 hQ14
          subst l14 y14 z14
          obtain ⟨rfl, N14q, E14⟩ := hQ14
          have N := Fr.app N N14q
          have O := own_ext_trans O E14
          refine own_st (T' := T14) (F' := (mkF m 11 #[.val (.int x0), .val (.int (4 : Int32)), .unset] [(.ref w_VAL4)])) st14 ?_
          refine own_st (T' := T14) (F' := (mkF m 12 #[.val (.int x0), .val (.int (4 : Int32)), .val (.ref w_VAL4)] [])) (fun t k => XS.astoreN X14.here hx rfl (hb hby at_11) rfl rfl (l' := #[.val (.int x0), .val (.int (4 : Int32)), .val (.ref w_VAL4)]) rfl k) ?_
          refine own_st (T' := T14) (F' := (mkF m 13 #[.val (.int x0), .val (.int (4 : Int32)), .val (.ref w_VAL4)] [(.ref w_VAL4)])) (fun t k => XS.aloadN X14.here hx rfl (hb hby at_12) rfl rfl k) ?_
          refine own_st (T' := T14) (F' := (mkF m 14 #[.val (.int x0), .val (.int (4 : Int32)), .val (.ref w_VAL4)] [(.int (4 : Int32)), (.ref w_VAL4)])) (fun t k => XS.iloadN X14.here hx rfl (hb hby at_13) rfl k) ?_
          obtain ⟨v15, _, ⟨T15, L15, k15, n15⟩, -, X15, ⟨Lc15, hQ15, l15, y15, z15⟩, st15⟩ := Jvm.LawKit.callS X14 hx (y := (⟨"com/example/turnleaf/turnleaf/token/KeyTypeOfTagPinLaw", "expected", "(I)Lcom/example/turnleaf/turnleaf/token/KeyType;"⟩ : MethodName)) hown (mvT hZ (hw _ (List.mem_of_getElem? (i := 22) rfl))) (mvT hZ (hw _ (List.mem_of_getElem? (i := 23) rfl))) (mvT hZ (hw _ (List.mem_of_getElem? (i := 24) rfl))) (mvT hZ (hw _ (List.mem_of_getElem? (i := 25) rfl))) (by decide) (backOf (W := 1) (rmX_4 l Z a0 CX [] T14.heap O) hZ (hw _ (List.mem_of_getElem? (i := 25) rfl)) (hw _ (List.mem_of_getElem? (i := 24) rfl)) (by decide) (by decide)) (g := (mkF m 14 #[.val (.int x0), .val (.int (4 : Int32)), .val (.ref w_VAL4)] [(.int (4 : Int32)), (.ref w_VAL4)])) rfl (by rw [hml]; rfl) (argsL := [(.int (4 : Int32))]) (rest := [(.ref w_VAL4)]) (lenOf pd_1 rfl) rfl (by show 2 * 0 + _ ≤ _; exact Nat.le_of_eq rfl) (hb hby at_14) (fun _ _ => ⟨rfl, rfl, (by decide : 1 + 0 ≤ _), (by decide : 8 + 0 ≤ _)⟩)
          dsimp only [Pt.U, Pt.locs, Pt.cells, Pt.slots] at X15 l15 y15 z15 st15 hQ15
          subst l15 y15 z15
          obtain ⟨rfl, N15q, e15⟩ := hQ15
          have N := Fr.app N N15q
          refine own_st (T' := T15) (F' := (mkF m 17 #[.val (.int x0), .val (.int (4 : Int32)), .val (.ref w_VAL4)] [(.ref w_VAL4), (.ref w_VAL4)])) st15 ?_
          refine own_st (T' := T15) (F' := (mkF m 20 #[.val (.int x0), .val (.int (4 : Int32)), .val (.ref w_VAL4)] [])) (fun t k => Jvm.RoadKit.acmp (g := (mkF m 17 #[.val (.int x0), .val (.int (4 : Int32)), .val (.ref w_VAL4)] [(.ref w_VAL4), (.ref w_VAL4)])) X15 hx rfl rfl rfl (pc0 := 17) (pc' := 20) (same := true) rfl (hb hby at_17) rfl (decide_eq_true rfl) (by decide) (by decide) k) ?_
          refine own_st (T' := T15) (F' := (mkF m 21 #[.val (.int x0), .val (.int (4 : Int32)), .val (.ref w_VAL4)] [(.ref w_VAL4)])) (fun t k => XS.aloadN X15.here hx rfl (hb hby at_20) rfl rfl k) ?_
          obtain ⟨cq16, kq16, q16a, q16b, q16c⟩ := isOf hZ e15 (E_VAL4.ext O)
          obtain ⟨v16, _, ⟨T16, L16, k16, n16⟩, -, X16, ⟨Lc16, hQ16, l16, y16, z16⟩, st16⟩ := X15.virtualBack hx (y := (⟨"com/example/turnleaf/turnleaf/token/KeyType", "tag", "()I"⟩ : MethodName)) (z := (⟨"com/example/turnleaf/turnleaf/token/KeyType", "tag", "()I"⟩ : MethodName)) hown (mvT hZ (hw _ (List.mem_of_getElem? (i := 28) rfl))) (mvT hZ (hw _ (List.mem_of_getElem? (i := 29) rfl))) (notFace_of_selects (args := #[]) (mvT hZ (hw _ (List.mem_of_getElem? (i := 38) rfl)))) (mvT hZ (hw _ (List.mem_of_getElem? (i := 38) rfl))) (mvT hZ (hw _ (List.mem_of_getElem? (i := 30) rfl))) (by decide) (backOf (W := 0) (rm4 l Z a0 CX [] w_VAL4 (4 : Int32) T14.heap O (O_VAL4.ext O)) hZ (hw _ (List.mem_of_getElem? (i := 32) rfl)) (hw _ (List.mem_of_getElem? (i := 2) rfl)) (by decide) (by decide)) q16a q16c (g := (mkF m 21 #[.val (.int x0), .val (.int (4 : Int32)), .val (.ref w_VAL4)] [(.ref w_VAL4)])) rfl (by rw [hml]; rfl) (Steps.refl _) (argsL := []) (rest := []) (lenOf pd_2 rfl) rfl (by show 2 * 0 + _ ≤ _; exact Nat.le_of_eq rfl) (hb hby at_21) (fun _ _ => ⟨rfl, e15, (by decide : 1 + 0 ≤ _), (by decide : 8 + 0 ≤ _)⟩)
          dsimp only [Pt.U, Pt.locs, Pt.cells, Pt.slots] at X16 l16 y16 z16 st16 hQ16
          subst l16 y16 z16
          obtain ⟨rfl, N16q, e16⟩ := hQ16
          have N := Fr.app N N16q
          refine own_tr (T' := T16) (F' := (mkF m 24 #[.val (.int x0), .val (.int (4 : Int32)), .val (.ref w_VAL4)] [(.int (4 : Int32))])) st16 ?_
          refine own_st (T' := T16) (F' := (mkF m 25 #[.val (.int x0), .val (.int (4 : Int32)), .val (.ref w_VAL4)] [(.int (4 : Int32)), (.int (4 : Int32))])) (fun t k => XS.iloadN X16.here hx rfl (hb hby at_24) rfl k) ?_
          refine own_st (T' := T16) (F' := (mkF m 28 #[.val (.int x0), .val (.int (4 : Int32)), .val (.ref w_VAL4)] [])) (fun t k => XS.icmpNo X16.here hx rfl (hb hby at_25) rfl (teq rfl).2 k) ?_
          refine own_st (T' := T16) (F' := (mkF m 29 #[.val (.int x0), .val (.int (4 : Int32)), .val (.ref w_VAL4)] [(.int (1 : Int32))])) (fun t k => XS.iconst X16.here hx rfl (hb hby at_28) k) ?_
          refine own_st (T' := T16) (F' := (mkF m 33 #[.val (.int x0), .val (.int (4 : Int32)), .val (.ref w_VAL4)] [(.int (1 : Int32))])) (fun t k => XS.goto X16.here hx rfl (pc0 := 29) (pc' := 33) rfl (hb hby at_29) (by decide) (by decide) k) ?_
          exact own_retN X16 hx (t := .boolean) Bd.returns (by simp) (by decide) (hb hby at_33) hlk (by show Q0 Z _ T16.heap _; rw [e16]; exact ⟨rfl, N⟩) (by decide) (by decide)
        · by_cases hk4_17 : (x0 &&& (7 : Int32)) = (4 : Int32)
          · have ht : ((x0 &&& (7 : Int32)) + (1 : Int32)) = (5 : Int32) := by rw [hk4_17]; rfl
            rw [ht]
            refine own_st (T' := s₁) (F' := (mkF m 8 #[.val (.int x0), .val (.int (5 : Int32)), .unset] [(.int (5 : Int32))])) (fun t k => XS.iloadN X0.here hx rfl (hb hby at_7) rfl k) ?_
            obtain ⟨v18, _, ⟨T18, L18, k18, n18⟩, -, X18, ⟨Lc18, hQ18, l18, y18, z18⟩, st18⟩ := Jvm.LawKit.callS X0 hx (y := (⟨"com/example/turnleaf/turnleaf/token/KeyType", "ofTag", "(I)Lcom/example/turnleaf/turnleaf/token/KeyType;"⟩ : MethodName)) hown (mvT hZ (hw _ (List.mem_of_getElem? (i := 0) rfl))) (mvT hZ (hw _ (List.mem_of_getElem? (i := 1) rfl))) (mvT hZ (hw _ (List.mem_of_getElem? (i := 2) rfl))) (mvT hZ (hw _ (List.mem_of_getElem? (i := 3) rfl))) (by decide) (backOf (W := 0) (rmO_5 l Z a0 CX [] h0 O) hZ (hw _ (List.mem_of_getElem? (i := 3) rfl)) (hw _ (List.mem_of_getElem? (i := 2) rfl)) (by decide) (by decide)) (g := (mkF m 8 #[.val (.int x0), .val (.int (5 : Int32)), .unset] [(.int (5 : Int32))])) rfl (by rw [hml]; rfl) (argsL := [(.int (5 : Int32))]) (rest := []) (lenOf pd_1 rfl) rfl (by show 2 * 0 + _ ≤ _; exact Nat.le_of_eq rfl) (hb hby at_8) (fun _ _ => ⟨rfl, e0, (by decide : 0 + 1 ≤ _), (by decide : 0 + 8 ≤ _)⟩)
            dsimp only [Pt.U, Pt.locs, Pt.cells, Pt.slots] at X18 l18 y18 z18 st18 hQ18
            subst l18 y18 z18
            obtain ⟨rfl, N18q, E18⟩ := hQ18
            have N := Fr.app N N18q
            have O := own_ext_trans O E18
            refine own_st (T' := T18) (F' := (mkF m 11 #[.val (.int x0), .val (.int (5 : Int32)), .unset] [(.ref w_VAL5)])) st18 ?_
            refine own_st (T' := T18) (F' := (mkF m 12 #[.val (.int x0), .val (.int (5 : Int32)), .val (.ref w_VAL5)] [])) (fun t k => XS.astoreN X18.here hx rfl (hb hby at_11) rfl rfl (l' := #[.val (.int x0), .val (.int (5 : Int32)), .val (.ref w_VAL5)]) rfl k) ?_
            refine own_st (T' := T18) (F' := (mkF m 13 #[.val (.int x0), .val (.int (5 : Int32)), .val (.ref w_VAL5)] [(.ref w_VAL5)])) (fun t k => XS.aloadN X18.here hx rfl (hb hby at_12) rfl rfl k) ?_
            refine own_st (T' := T18) (F' := (mkF m 14 #[.val (.int x0), .val (.int (5 : Int32)), .val (.ref w_VAL5)] [(.int (5 : Int32)), (.ref w_VAL5)])) (fun t k => XS.iloadN X18.here hx rfl (hb hby at_13) rfl k) ?_
            obtain ⟨v19, _, ⟨T19, L19, k19, n19⟩, -, X19, ⟨Lc19, hQ19, l19, y19, z19⟩, st19⟩ := Jvm.LawKit.callS X18 hx (y := (⟨"com/example/turnleaf/turnleaf/token/KeyTypeOfTagPinLaw", "expected", "(I)Lcom/example/turnleaf/turnleaf/token/KeyType;"⟩ : MethodName)) hown (mvT hZ (hw _ (List.mem_of_getElem? (i := 22) rfl))) (mvT hZ (hw _ (List.mem_of_getElem? (i := 23) rfl))) (mvT hZ (hw _ (List.mem_of_getElem? (i := 24) rfl))) (mvT hZ (hw _ (List.mem_of_getElem? (i := 25) rfl))) (by decide) (backOf (W := 1) (rmX_5 l Z a0 CX [] T18.heap O) hZ (hw _ (List.mem_of_getElem? (i := 25) rfl)) (hw _ (List.mem_of_getElem? (i := 24) rfl)) (by decide) (by decide)) (g := (mkF m 14 #[.val (.int x0), .val (.int (5 : Int32)), .val (.ref w_VAL5)] [(.int (5 : Int32)), (.ref w_VAL5)])) rfl (by rw [hml]; rfl) (argsL := [(.int (5 : Int32))]) (rest := [(.ref w_VAL5)]) (lenOf pd_1 rfl) rfl (by show 2 * 0 + _ ≤ _; exact Nat.le_of_eq rfl) (hb hby at_14) (fun _ _ => ⟨rfl, rfl, (by decide : 1 + 0 ≤ _), (by decide : 8 + 0 ≤ _)⟩)
            dsimp only [Pt.U, Pt.locs, Pt.cells, Pt.slots] at X19 l19 y19 z19 st19 hQ19
            subst l19 y19 z19
            obtain ⟨rfl, N19q, e19⟩ := hQ19
            have N := Fr.app N N19q
            refine own_st (T' := T19) (F' := (mkF m 17 #[.val (.int x0), .val (.int (5 : Int32)), .val (.ref w_VAL5)] [(.ref w_VAL5), (.ref w_VAL5)])) st19 ?_
            refine own_st (T' := T19) (F' := (mkF m 20 #[.val (.int x0), .val (.int (5 : Int32)), .val (.ref w_VAL5)] [])) (fun t k => Jvm.RoadKit.acmp (g := (mkF m 17 #[.val (.int x0), .val (.int (5 : Int32)), .val (.ref w_VAL5)] [(.ref w_VAL5), (.ref w_VAL5)])) X19 hx rfl rfl rfl (pc0 := 17) (pc' := 20) (same := true) rfl (hb hby at_17) rfl (decide_eq_true rfl) (by decide) (by decide) k) ?_
            refine own_st (T' := T19) (F' := (mkF m 21 #[.val (.int x0), .val (.int (5 : Int32)), .val (.ref w_VAL5)] [(.ref w_VAL5)])) (fun t k => XS.aloadN X19.here hx rfl (hb hby at_20) rfl rfl k) ?_
            obtain ⟨cq20, kq20, q20a, q20b, q20c⟩ := isOf hZ e19 (E_VAL5.ext O)
            obtain ⟨v20, _, ⟨T20, L20, k20, n20⟩, -, X20, ⟨Lc20, hQ20, l20, y20, z20⟩, st20⟩ := X19.virtualBack hx (y := (⟨"com/example/turnleaf/turnleaf/token/KeyType", "tag", "()I"⟩ : MethodName)) (z := (⟨"com/example/turnleaf/turnleaf/token/KeyType", "tag", "()I"⟩ : MethodName)) hown (mvT hZ (hw _ (List.mem_of_getElem? (i := 28) rfl))) (mvT hZ (hw _ (List.mem_of_getElem? (i := 29) rfl))) (notFace_of_selects (args := #[]) (mvT hZ (hw _ (List.mem_of_getElem? (i := 56) rfl)))) (mvT hZ (hw _ (List.mem_of_getElem? (i := 56) rfl))) (mvT hZ (hw _ (List.mem_of_getElem? (i := 30) rfl))) (by decide) (backOf (W := 0) (rm4 l Z a0 CX [] w_VAL5 (5 : Int32) T18.heap O (O_VAL5.ext O)) hZ (hw _ (List.mem_of_getElem? (i := 32) rfl)) (hw _ (List.mem_of_getElem? (i := 2) rfl)) (by decide) (by decide)) q20a q20c (g := (mkF m 21 #[.val (.int x0), .val (.int (5 : Int32)), .val (.ref w_VAL5)] [(.ref w_VAL5)])) rfl (by rw [hml]; rfl) (Steps.refl _) (argsL := []) (rest := []) (lenOf pd_2 rfl) rfl (by show 2 * 0 + _ ≤ _; exact Nat.le_of_eq rfl) (hb hby at_21) (fun _ _ => ⟨rfl, e19, (by decide : 1 + 0 ≤ _), (by decide : 8 + 0 ≤ _)⟩)
            dsimp only [Pt.U, Pt.locs, Pt.cells, Pt.slots] at X20 l20 y20 z20 st20 hQ20
            subst l20 y20 z20
            obtain ⟨rfl, N20q, e20⟩ := hQ20
            have N := Fr.app N N20q
            refine own_tr (T' := T20) (F' := (mkF m 24 #[.val (.int x0), .val (.int (5 : Int32)), .val (.ref w_VAL5)] [(.int (5 : Int32))])) st20 ?_
            refine own_st (T' := T20) (F' := (mkF m 25 #[.val (.int x0), .val (.int (5 : Int32)), .val (.ref w_VAL5)] [(.int (5 : Int32)), (.int (5 : Int32))])) (fun t k => XS.iloadN X20.here hx rfl (hb hby at_24) rfl k) ?_
            refine own_st (T' := T20) (F' := (mkF m 28 #[.val (.int x0), .val (.int (5 : Int32)), .val (.ref w_VAL5)] [])) (fun t k => XS.icmpNo X20.here hx rfl (hb hby at_25) rfl (teq rfl).2 k) ?_
            refine own_st (T' := T20) (F' := (mkF m 29 #[.val (.int x0), .val (.int (5 : Int32)), .val (.ref w_VAL5)] [(.int (1 : Int32))])) (fun t k => XS.iconst X20.here hx rfl (hb hby at_28) k) ?_
            refine own_st (T' := T20) (F' := (mkF m 33 #[.val (.int x0), .val (.int (5 : Int32)), .val (.ref w_VAL5)] [(.int (1 : Int32))])) (fun t k => XS.goto X20.here hx rfl (pc0 := 29) (pc' := 33) rfl (hb hby at_29) (by decide) (by decide) k) ?_
            exact own_retN X20 hx (t := .boolean) Bd.returns (by simp) (by decide) (hb hby at_33) hlk (by show Q0 Z _ T20.heap _; rw [e20]; exact ⟨rfl, N⟩) (by decide) (by decide)
          · by_cases hk5_21 : (x0 &&& (7 : Int32)) = (5 : Int32)
            · have ht : ((x0 &&& (7 : Int32)) + (1 : Int32)) = (6 : Int32) := by rw [hk5_21]; rfl
              rw [ht]
              refine own_st (T' := s₁) (F' := (mkF m 8 #[.val (.int x0), .val (.int (6 : Int32)), .unset] [(.int (6 : Int32))])) (fun t k => XS.iloadN X0.here hx rfl (hb hby at_7) rfl k) ?_
              obtain ⟨v22, _, ⟨T22, L22, k22, n22⟩, -, X22, ⟨Lc22, hQ22, l22, y22, z22⟩, st22⟩ := Jvm.LawKit.callS X0 hx (y := (⟨"com/example/turnleaf/turnleaf/token/KeyType", "ofTag", "(I)Lcom/example/turnleaf/turnleaf/token/KeyType;"⟩ : MethodName)) hown (mvT hZ (hw _ (List.mem_of_getElem? (i := 0) rfl))) (mvT hZ (hw _ (List.mem_of_getElem? (i := 1) rfl))) (mvT hZ (hw _ (List.mem_of_getElem? (i := 2) rfl))) (mvT hZ (hw _ (List.mem_of_getElem? (i := 3) rfl))) (by decide) (backOf (W := 0) (rmO_6 l Z a0 CX [] h0 O) hZ (hw _ (List.mem_of_getElem? (i := 3) rfl)) (hw _ (List.mem_of_getElem? (i := 2) rfl)) (by decide) (by decide)) (g := (mkF m 8 #[.val (.int x0), .val (.int (6 : Int32)), .unset] [(.int (6 : Int32))])) rfl (by rw [hml]; rfl) (argsL := [(.int (6 : Int32))]) (rest := []) (lenOf pd_1 rfl) rfl (by show 2 * 0 + _ ≤ _; exact Nat.le_of_eq rfl) (hb hby at_8) (fun _ _ => ⟨rfl, e0, (by decide : 0 + 1 ≤ _), (by decide : 0 + 8 ≤ _)⟩)
              dsimp only [Pt.U, Pt.locs, Pt.cells, Pt.slots] at X22 l22 y22 z22 st22 hQ22
              subst l22 y22 z22
              obtain ⟨rfl, N22q, E22⟩ := hQ22
              have N := Fr.app N N22q
              have O := own_ext_trans O E22
              refine own_st (T' := T22) (F' := (mkF m 11 #[.val (.int x0), .val (.int (6 : Int32)), .unset] [(.ref w_VAL6)])) st22 ?_
              refine own_st (T' := T22) (F' := (mkF m 12 #[.val (.int x0), .val (.int (6 : Int32)), .val (.ref w_VAL6)] [])) (fun t k => XS.astoreN X22.here hx rfl (hb hby at_11) rfl rfl (l' := #[.val (.int x0), .val (.int (6 : Int32)), .val (.ref w_VAL6)]) rfl k) ?_
              refine own_st (T' := T22) (F' := (mkF m 13 #[.val (.int x0), .val (.int (6 : Int32)), .val (.ref w_VAL6)] [(.ref w_VAL6)])) (fun t k => XS.aloadN X22.here hx rfl (hb hby at_12) rfl rfl k) ?_
              refine own_st (T' := T22) (F' := (mkF m 14 #[.val (.int x0), .val (.int (6 : Int32)), .val (.ref w_VAL6)] [(.int (6 : Int32)), (.ref w_VAL6)])) (fun t k => XS.iloadN X22.here hx rfl (hb hby at_13) rfl k) ?_
              obtain ⟨v23, _, ⟨T23, L23, k23, n23⟩, -, X23, ⟨Lc23, hQ23, l23, y23, z23⟩, st23⟩ := Jvm.LawKit.callS X22 hx (y := (⟨"com/example/turnleaf/turnleaf/token/KeyTypeOfTagPinLaw", "expected", "(I)Lcom/example/turnleaf/turnleaf/token/KeyType;"⟩ : MethodName)) hown (mvT hZ (hw _ (List.mem_of_getElem? (i := 22) rfl))) (mvT hZ (hw _ (List.mem_of_getElem? (i := 23) rfl))) (mvT hZ (hw _ (List.mem_of_getElem? (i := 24) rfl))) (mvT hZ (hw _ (List.mem_of_getElem? (i := 25) rfl))) (by decide) (backOf (W := 1) (rmX_6 l Z a0 CX [] T22.heap O) hZ (hw _ (List.mem_of_getElem? (i := 25) rfl)) (hw _ (List.mem_of_getElem? (i := 24) rfl)) (by decide) (by decide)) (g := (mkF m 14 #[.val (.int x0), .val (.int (6 : Int32)), .val (.ref w_VAL6)] [(.int (6 : Int32)), (.ref w_VAL6)])) rfl (by rw [hml]; rfl) (argsL := [(.int (6 : Int32))]) (rest := [(.ref w_VAL6)]) (lenOf pd_1 rfl) rfl (by show 2 * 0 + _ ≤ _; exact Nat.le_of_eq rfl) (hb hby at_14) (fun _ _ => ⟨rfl, rfl, (by decide : 1 + 0 ≤ _), (by decide : 8 + 0 ≤ _)⟩)
              dsimp only [Pt.U, Pt.locs, Pt.cells, Pt.slots] at X23 l23 y23 z23 st23 hQ23
              subst l23 y23 z23
              obtain ⟨rfl, N23q, e23⟩ := hQ23
              have N := Fr.app N N23q
              refine own_st (T' := T23) (F' := (mkF m 17 #[.val (.int x0), .val (.int (6 : Int32)), .val (.ref w_VAL6)] [(.ref w_VAL6), (.ref w_VAL6)])) st23 ?_
              refine own_st (T' := T23) (F' := (mkF m 20 #[.val (.int x0), .val (.int (6 : Int32)), .val (.ref w_VAL6)] [])) (fun t k => Jvm.RoadKit.acmp (g := (mkF m 17 #[.val (.int x0), .val (.int (6 : Int32)), .val (.ref w_VAL6)] [(.ref w_VAL6), (.ref w_VAL6)])) X23 hx rfl rfl rfl (pc0 := 17) (pc' := 20) (same := true) rfl (hb hby at_17) rfl (decide_eq_true rfl) (by decide) (by decide) k) ?_
              refine own_st (T' := T23) (F' := (mkF m 21 #[.val (.int x0), .val (.int (6 : Int32)), .val (.ref w_VAL6)] [(.ref w_VAL6)])) (fun t k => XS.aloadN X23.here hx rfl (hb hby at_20) rfl rfl k) ?_
              obtain ⟨cq24, kq24, q24a, q24b, q24c⟩ := isOf hZ e23 (E_VAL6.ext O)
              obtain ⟨v24, _, ⟨T24, L24, k24, n24⟩, -, X24, ⟨Lc24, hQ24, l24, y24, z24⟩, st24⟩ := X23.virtualBack hx (y := (⟨"com/example/turnleaf/turnleaf/token/KeyType", "tag", "()I"⟩ : MethodName)) (z := (⟨"com/example/turnleaf/turnleaf/token/KeyType", "tag", "()I"⟩ : MethodName)) hown (mvT hZ (hw _ (List.mem_of_getElem? (i := 28) rfl))) (mvT hZ (hw _ (List.mem_of_getElem? (i := 29) rfl))) (notFace_of_selects (args := #[]) (mvT hZ (hw _ (List.mem_of_getElem? (i := 59) rfl)))) (mvT hZ (hw _ (List.mem_of_getElem? (i := 59) rfl))) (mvT hZ (hw _ (List.mem_of_getElem? (i := 30) rfl))) (by decide) (backOf (W := 0) (rm4 l Z a0 CX [] w_VAL6 (6 : Int32) T22.heap O (O_VAL6.ext O)) hZ (hw _ (List.mem_of_getElem? (i := 32) rfl)) (hw _ (List.mem_of_getElem? (i := 2) rfl)) (by decide) (by decide)) q24a q24c (g := (mkF m 21 #[.val (.int x0), .val (.int (6 : Int32)), .val (.ref w_VAL6)] [(.ref w_VAL6)])) rfl (by rw [hml]; rfl) (Steps.refl _) (argsL := []) (rest := []) (lenOf pd_2 rfl) rfl (by show 2 * 0 + _ ≤ _; exact Nat.le_of_eq rfl) (hb hby at_21) (fun _ _ => ⟨rfl, e23, (by decide : 1 + 0 ≤ _), (by decide : 8 + 0 ≤ _)⟩)
              dsimp only [Pt.U, Pt.locs, Pt.cells, Pt.slots] at X24 l24 y24 z24 st24 hQ24
              subst l24 y24 z24
              obtain ⟨rfl, N24q, e24⟩ := hQ24
              have N := Fr.app N N24q
              refine own_tr (T' := T24) (F' := (mkF m 24 #[.val (.int x0), .val (.int (6 : Int32)), .val (.ref w_VAL6)] [(.int (6 : Int32))])) st24 ?_
              refine own_st (T' := T24) (F' := (mkF m 25 #[.val (.int x0), .val (.int (6 : Int32)), .val (.ref w_VAL6)] [(.int (6 : Int32)), (.int (6 : Int32))])) (fun t k => XS.iloadN X24.here hx rfl (hb hby at_24) rfl k) ?_
              refine own_st (T' := T24) (F' := (mkF m 28 #[.val (.int x0), .val (.int (6 : Int32)), .val (.ref w_VAL6)] [])) (fun t k => XS.icmpNo X24.here hx rfl (hb hby at_25) rfl (teq rfl).2 k) ?_
              refine own_st (T' := T24) (F' := (mkF m 29 #[.val (.int x0), .val (.int (6 : Int32)), .val (.ref w_VAL6)] [(.int (1 : Int32))])) (fun t k => XS.iconst X24.here hx rfl (hb hby at_28) k) ?_
              refine own_st (T' := T24) (F' := (mkF m 33 #[.val (.int x0), .val (.int (6 : Int32)), .val (.ref w_VAL6)] [(.int (1 : Int32))])) (fun t k => XS.goto X24.here hx rfl (pc0 := 29) (pc' := 33) rfl (hb hby at_29) (by decide) (by decide) k) ?_
              exact own_retN X24 hx (t := .boolean) Bd.returns (by simp) (by decide) (hb hby at_33) hlk (by show Q0 Z _ T24.heap _; rw [e24]; exact ⟨rfl, N⟩) (by decide) (by decide)
            · by_cases hk6_25 : (x0 &&& (7 : Int32)) = (6 : Int32)
              · have ht : ((x0 &&& (7 : Int32)) + (1 : Int32)) = (7 : Int32) := by rw [hk6_25]; rfl
                rw [ht]
                refine own_st (T' := s₁) (F' := (mkF m 8 #[.val (.int x0), .val (.int (7 : Int32)), .unset] [(.int (7 : Int32))])) (fun t k => XS.iloadN X0.here hx rfl (hb hby at_7) rfl k) ?_
                obtain ⟨v26, _, ⟨T26, L26, k26, n26⟩, -, X26, ⟨Lc26, hQ26, l26, y26, z26⟩, st26⟩ := Jvm.LawKit.callS X0 hx (y := (⟨"com/example/turnleaf/turnleaf/token/KeyType", "ofTag", "(I)Lcom/example/turnleaf/turnleaf/token/KeyType;"⟩ : MethodName)) hown (mvT hZ (hw _ (List.mem_of_getElem? (i := 0) rfl))) (mvT hZ (hw _ (List.mem_of_getElem? (i := 1) rfl))) (mvT hZ (hw _ (List.mem_of_getElem? (i := 2) rfl))) (mvT hZ (hw _ (List.mem_of_getElem? (i := 3) rfl))) (by decide) (backOf (W := 0) (rmO_7 l Z a0 CX [] h0 O) hZ (hw _ (List.mem_of_getElem? (i := 3) rfl)) (hw _ (List.mem_of_getElem? (i := 2) rfl)) (by decide) (by decide)) (g := (mkF m 8 #[.val (.int x0), .val (.int (7 : Int32)), .unset] [(.int (7 : Int32))])) rfl (by rw [hml]; rfl) (argsL := [(.int (7 : Int32))]) (rest := []) (lenOf pd_1 rfl) rfl (by show 2 * 0 + _ ≤ _; exact Nat.le_of_eq rfl) (hb hby at_8) (fun _ _ => ⟨rfl, e0, (by decide : 0 + 1 ≤ _), (by decide : 0 + 8 ≤ _)⟩)
                dsimp only [Pt.U, Pt.locs, Pt.cells, Pt.slots] at X26 l26 y26 z26 st26 hQ26
                subst l26 y26 z26
                obtain ⟨rfl, N26q, E26⟩ := hQ26
                have N := Fr.app N N26q
                have O := own_ext_trans O E26
                refine own_st (T' := T26) (F' := (mkF m 11 #[.val (.int x0), .val (.int (7 : Int32)), .unset] [(.ref w_VAL7)])) st26 ?_
                refine own_st (T' := T26) (F' := (mkF m 12 #[.val (.int x0), .val (.int (7 : Int32)), .val (.ref w_VAL7)] [])) (fun t k => XS.astoreN X26.here hx rfl (hb hby at_11) rfl rfl (l' := #[.val (.int x0), .val (.int (7 : Int32)), .val (.ref w_VAL7)]) rfl k) ?_
                refine own_st (T' := T26) (F' := (mkF m 13 #[.val (.int x0), .val (.int (7 : Int32)), .val (.ref w_VAL7)] [(.ref w_VAL7)])) (fun t k => XS.aloadN X26.here hx rfl (hb hby at_12) rfl rfl k) ?_
                refine own_st (T' := T26) (F' := (mkF m 14 #[.val (.int x0), .val (.int (7 : Int32)), .val (.ref w_VAL7)] [(.int (7 : Int32)), (.ref w_VAL7)])) (fun t k => XS.iloadN X26.here hx rfl (hb hby at_13) rfl k) ?_
                obtain ⟨v27, _, ⟨T27, L27, k27, n27⟩, -, X27, ⟨Lc27, hQ27, l27, y27, z27⟩, st27⟩ := Jvm.LawKit.callS X26 hx (y := (⟨"com/example/turnleaf/turnleaf/token/KeyTypeOfTagPinLaw", "expected", "(I)Lcom/example/turnleaf/turnleaf/token/KeyType;"⟩ : MethodName)) hown (mvT hZ (hw _ (List.mem_of_getElem? (i := 22) rfl))) (mvT hZ (hw _ (List.mem_of_getElem? (i := 23) rfl))) (mvT hZ (hw _ (List.mem_of_getElem? (i := 24) rfl))) (mvT hZ (hw _ (List.mem_of_getElem? (i := 25) rfl))) (by decide) (backOf (W := 1) (rmX_7 l Z a0 CX [] T26.heap O) hZ (hw _ (List.mem_of_getElem? (i := 25) rfl)) (hw _ (List.mem_of_getElem? (i := 24) rfl)) (by decide) (by decide)) (g := (mkF m 14 #[.val (.int x0), .val (.int (7 : Int32)), .val (.ref w_VAL7)] [(.int (7 : Int32)), (.ref w_VAL7)])) rfl (by rw [hml]; rfl) (argsL := [(.int (7 : Int32))]) (rest := [(.ref w_VAL7)]) (lenOf pd_1 rfl) rfl (by show 2 * 0 + _ ≤ _; exact Nat.le_of_eq rfl) (hb hby at_14) (fun _ _ => ⟨rfl, rfl, (by decide : 1 + 0 ≤ _), (by decide : 8 + 0 ≤ _)⟩)
                dsimp only [Pt.U, Pt.locs, Pt.cells, Pt.slots] at X27 l27 y27 z27 st27 hQ27
                subst l27 y27 z27
                obtain ⟨rfl, N27q, e27⟩ := hQ27
                have N := Fr.app N N27q
                refine own_st (T' := T27) (F' := (mkF m 17 #[.val (.int x0), .val (.int (7 : Int32)), .val (.ref w_VAL7)] [(.ref w_VAL7), (.ref w_VAL7)])) st27 ?_
                refine own_st (T' := T27) (F' := (mkF m 20 #[.val (.int x0), .val (.int (7 : Int32)), .val (.ref w_VAL7)] [])) (fun t k => Jvm.RoadKit.acmp (g := (mkF m 17 #[.val (.int x0), .val (.int (7 : Int32)), .val (.ref w_VAL7)] [(.ref w_VAL7), (.ref w_VAL7)])) X27 hx rfl rfl rfl (pc0 := 17) (pc' := 20) (same := true) rfl (hb hby at_17) rfl (decide_eq_true rfl) (by decide) (by decide) k) ?_
                refine own_st (T' := T27) (F' := (mkF m 21 #[.val (.int x0), .val (.int (7 : Int32)), .val (.ref w_VAL7)] [(.ref w_VAL7)])) (fun t k => XS.aloadN X27.here hx rfl (hb hby at_20) rfl rfl k) ?_
                obtain ⟨cq28, kq28, q28a, q28b, q28c⟩ := isOf hZ e27 (E_VAL7.ext O)
                obtain ⟨v28, _, ⟨T28, L28, k28, n28⟩, -, X28, ⟨Lc28, hQ28, l28, y28, z28⟩, st28⟩ := X27.virtualBack hx (y := (⟨"com/example/turnleaf/turnleaf/token/KeyType", "tag", "()I"⟩ : MethodName)) (z := (⟨"com/example/turnleaf/turnleaf/token/KeyType", "tag", "()I"⟩ : MethodName)) hown (mvT hZ (hw _ (List.mem_of_getElem? (i := 28) rfl))) (mvT hZ (hw _ (List.mem_of_getElem? (i := 29) rfl))) (notFace_of_selects (args := #[]) (mvT hZ (hw _ (List.mem_of_getElem? (i := 44) rfl)))) (mvT hZ (hw _ (List.mem_of_getElem? (i := 44) rfl))) (mvT hZ (hw _ (List.mem_of_getElem? (i := 30) rfl))) (by decide) (backOf (W := 0) (rm4 l Z a0 CX [] w_VAL7 (7 : Int32) T26.heap O (O_VAL7.ext O)) hZ (hw _ (List.mem_of_getElem? (i := 32) rfl)) (hw _ (List.mem_of_getElem? (i := 2) rfl)) (by decide) (by decide)) q28a q28c (g := (mkF m 21 #[.val (.int x0), .val (.int (7 : Int32)), .val (.ref w_VAL7)] [(.ref w_VAL7)])) rfl (by rw [hml]; rfl) (Steps.refl _) (argsL := []) (rest := []) (lenOf pd_2 rfl) rfl (by show 2 * 0 + _ ≤ _; exact Nat.le_of_eq rfl) (hb hby at_21) (fun _ _ => ⟨rfl, e27, (by decide : 1 + 0 ≤ _), (by decide : 8 + 0 ≤ _)⟩)
                dsimp only [Pt.U, Pt.locs, Pt.cells, Pt.slots] at X28 l28 y28 z28 st28 hQ28
                subst l28 y28 z28
                obtain ⟨rfl, N28q, e28⟩ := hQ28
                have N := Fr.app N N28q
                refine own_tr (T' := T28) (F' := (mkF m 24 #[.val (.int x0), .val (.int (7 : Int32)), .val (.ref w_VAL7)] [(.int (7 : Int32))])) st28 ?_
                refine own_st (T' := T28) (F' := (mkF m 25 #[.val (.int x0), .val (.int (7 : Int32)), .val (.ref w_VAL7)] [(.int (7 : Int32)), (.int (7 : Int32))])) (fun t k => XS.iloadN X28.here hx rfl (hb hby at_24) rfl k) ?_
                refine own_st (T' := T28) (F' := (mkF m 28 #[.val (.int x0), .val (.int (7 : Int32)), .val (.ref w_VAL7)] [])) (fun t k => XS.icmpNo X28.here hx rfl (hb hby at_25) rfl (teq rfl).2 k) ?_
                refine own_st (T' := T28) (F' := (mkF m 29 #[.val (.int x0), .val (.int (7 : Int32)), .val (.ref w_VAL7)] [(.int (1 : Int32))])) (fun t k => XS.iconst X28.here hx rfl (hb hby at_28) k) ?_
                refine own_st (T' := T28) (F' := (mkF m 33 #[.val (.int x0), .val (.int (7 : Int32)), .val (.ref w_VAL7)] [(.int (1 : Int32))])) (fun t k => XS.goto X28.here hx rfl (pc0 := 29) (pc' := 33) rfl (hb hby at_29) (by decide) (by decide) k) ?_
                exact own_retN X28 hx (t := .boolean) Bd.returns (by simp) (by decide) (hb hby at_33) hlk (by show Q0 Z _ T28.heap _; rw [e28]; exact ⟨rfl, N⟩) (by decide) (by decide)
              · have hk7 : (x0 &&& (7 : Int32)) = (7 : Int32) := own_last8 _ (own_mask3 x0).1 (own_mask3 x0).2 hk0_1 hk1_5 hk2_9 hk3_13 hk4_17 hk5_21 hk6_25
                have ht : ((x0 &&& (7 : Int32)) + (1 : Int32)) = (8 : Int32) := by rw [hk7]; rfl
                rw [ht]
                refine own_st (T' := s₁) (F' := (mkF m 8 #[.val (.int x0), .val (.int (8 : Int32)), .unset] [(.int (8 : Int32))])) (fun t k => XS.iloadN X0.here hx rfl (hb hby at_7) rfl k) ?_
                obtain ⟨v29, _, ⟨T29, L29, k29, n29⟩, -, X29, ⟨Lc29, hQ29, l29, y29, z29⟩, st29⟩ := Jvm.LawKit.callS X0 hx (y := (⟨"com/example/turnleaf/turnleaf/token/KeyType", "ofTag", "(I)Lcom/example/turnleaf/turnleaf/token/KeyType;"⟩ : MethodName)) hown (mvT hZ (hw _ (List.mem_of_getElem? (i := 0) rfl))) (mvT hZ (hw _ (List.mem_of_getElem? (i := 1) rfl))) (mvT hZ (hw _ (List.mem_of_getElem? (i := 2) rfl))) (mvT hZ (hw _ (List.mem_of_getElem? (i := 3) rfl))) (by decide) (backOf (W := 0) (rmO_8 l Z a0 CX [] h0 O) hZ (hw _ (List.mem_of_getElem? (i := 3) rfl)) (hw _ (List.mem_of_getElem? (i := 2) rfl)) (by decide) (by decide)) (g := (mkF m 8 #[.val (.int x0), .val (.int (8 : Int32)), .unset] [(.int (8 : Int32))])) rfl (by rw [hml]; rfl) (argsL := [(.int (8 : Int32))]) (rest := []) (lenOf pd_1 rfl) rfl (by show 2 * 0 + _ ≤ _; exact Nat.le_of_eq rfl) (hb hby at_8) (fun _ _ => ⟨rfl, e0, (by decide : 0 + 1 ≤ _), (by decide : 0 + 8 ≤ _)⟩)
                dsimp only [Pt.U, Pt.locs, Pt.cells, Pt.slots] at X29 l29 y29 z29 st29 hQ29
                subst l29 y29 z29
                obtain ⟨rfl, N29q, E29⟩ := hQ29
                have N := Fr.app N N29q
                have O := own_ext_trans O E29
                refine own_st (T' := T29) (F' := (mkF m 11 #[.val (.int x0), .val (.int (8 : Int32)), .unset] [(.ref w_VAL0)])) st29 ?_
                refine own_st (T' := T29) (F' := (mkF m 12 #[.val (.int x0), .val (.int (8 : Int32)), .val (.ref w_VAL0)] [])) (fun t k => XS.astoreN X29.here hx rfl (hb hby at_11) rfl rfl (l' := #[.val (.int x0), .val (.int (8 : Int32)), .val (.ref w_VAL0)]) rfl k) ?_
                refine own_st (T' := T29) (F' := (mkF m 13 #[.val (.int x0), .val (.int (8 : Int32)), .val (.ref w_VAL0)] [(.ref w_VAL0)])) (fun t k => XS.aloadN X29.here hx rfl (hb hby at_12) rfl rfl k) ?_
                refine own_st (T' := T29) (F' := (mkF m 14 #[.val (.int x0), .val (.int (8 : Int32)), .val (.ref w_VAL0)] [(.int (8 : Int32)), (.ref w_VAL0)])) (fun t k => XS.iloadN X29.here hx rfl (hb hby at_13) rfl k) ?_
                obtain ⟨v30, _, ⟨T30, L30, k30, n30⟩, -, X30, ⟨Lc30, hQ30, l30, y30, z30⟩, st30⟩ := Jvm.LawKit.callS X29 hx (y := (⟨"com/example/turnleaf/turnleaf/token/KeyTypeOfTagPinLaw", "expected", "(I)Lcom/example/turnleaf/turnleaf/token/KeyType;"⟩ : MethodName)) hown (mvT hZ (hw _ (List.mem_of_getElem? (i := 22) rfl))) (mvT hZ (hw _ (List.mem_of_getElem? (i := 23) rfl))) (mvT hZ (hw _ (List.mem_of_getElem? (i := 24) rfl))) (mvT hZ (hw _ (List.mem_of_getElem? (i := 25) rfl))) (by decide) (backOf (W := 1) (rmX_8 l Z a0 CX [] T29.heap O) hZ (hw _ (List.mem_of_getElem? (i := 25) rfl)) (hw _ (List.mem_of_getElem? (i := 24) rfl)) (by decide) (by decide)) (g := (mkF m 14 #[.val (.int x0), .val (.int (8 : Int32)), .val (.ref w_VAL0)] [(.int (8 : Int32)), (.ref w_VAL0)])) rfl (by rw [hml]; rfl) (argsL := [(.int (8 : Int32))]) (rest := [(.ref w_VAL0)]) (lenOf pd_1 rfl) rfl (by show 2 * 0 + _ ≤ _; exact Nat.le_of_eq rfl) (hb hby at_14) (fun _ _ => ⟨rfl, rfl, (by decide : 1 + 0 ≤ _), (by decide : 8 + 0 ≤ _)⟩)
                dsimp only [Pt.U, Pt.locs, Pt.cells, Pt.slots] at X30 l30 y30 z30 st30 hQ30
                subst l30 y30 z30
                obtain ⟨rfl, N30q, e30⟩ := hQ30
                have N := Fr.app N N30q
                refine own_st (T' := T30) (F' := (mkF m 17 #[.val (.int x0), .val (.int (8 : Int32)), .val (.ref w_VAL0)] [(.ref w_VAL0), (.ref w_VAL0)])) st30 ?_
                refine own_st (T' := T30) (F' := (mkF m 20 #[.val (.int x0), .val (.int (8 : Int32)), .val (.ref w_VAL0)] [])) (fun t k => Jvm.RoadKit.acmp (g := (mkF m 17 #[.val (.int x0), .val (.int (8 : Int32)), .val (.ref w_VAL0)] [(.ref w_VAL0), (.ref w_VAL0)])) X30 hx rfl rfl rfl (pc0 := 17) (pc' := 20) (same := true) rfl (hb hby at_17) rfl (decide_eq_true rfl) (by decide) (by decide) k) ?_
                refine own_st (T' := T30) (F' := (mkF m 21 #[.val (.int x0), .val (.int (8 : Int32)), .val (.ref w_VAL0)] [(.ref w_VAL0)])) (fun t k => XS.aloadN X30.here hx rfl (hb hby at_20) rfl rfl k) ?_
                obtain ⟨cq31, kq31, q31a, q31b, q31c⟩ := isOf hZ e30 (E_VAL0.ext O)
                obtain ⟨v31, _, ⟨T31, L31, k31, n31⟩, -, X31, ⟨Lc31, hQ31, l31, y31, z31⟩, st31⟩ := X30.virtualBack hx (y := (⟨"com/example/turnleaf/turnleaf/token/KeyType", "tag", "()I"⟩ : MethodName)) (z := (⟨"com/example/turnleaf/turnleaf/token/KeyType", "tag", "()I"⟩ : MethodName)) hown (mvT hZ (hw _ (List.mem_of_getElem? (i := 28) rfl))) (mvT hZ (hw _ (List.mem_of_getElem? (i := 29) rfl))) (notFace_of_selects (args := #[]) (mvT hZ (hw _ (List.mem_of_getElem? (i := 47) rfl)))) (mvT hZ (hw _ (List.mem_of_getElem? (i := 47) rfl))) (mvT hZ (hw _ (List.mem_of_getElem? (i := 30) rfl))) (by decide) (backOf (W := 0) (rm4 l Z a0 CX [] w_VAL0 (8 : Int32) T29.heap O (O_VAL0.ext O)) hZ (hw _ (List.mem_of_getElem? (i := 32) rfl)) (hw _ (List.mem_of_getElem? (i := 2) rfl)) (by decide) (by decide)) q31a q31c (g := (mkF m 21 #[.val (.int x0), .val (.int (8 : Int32)), .val (.ref w_VAL0)] [(.ref w_VAL0)])) rfl (by rw [hml]; rfl) (Steps.refl _) (argsL := []) (rest := []) (lenOf pd_2 rfl) rfl (by show 2 * 0 + _ ≤ _; exact Nat.le_of_eq rfl) (hb hby at_21) (fun _ _ => ⟨rfl, e30, (by decide : 1 + 0 ≤ _), (by decide : 8 + 0 ≤ _)⟩)
                dsimp only [Pt.U, Pt.locs, Pt.cells, Pt.slots] at X31 l31 y31 z31 st31 hQ31
                subst l31 y31 z31
                obtain ⟨rfl, N31q, e31⟩ := hQ31
                have N := Fr.app N N31q
                refine own_tr (T' := T31) (F' := (mkF m 24 #[.val (.int x0), .val (.int (8 : Int32)), .val (.ref w_VAL0)] [(.int (8 : Int32))])) st31 ?_
                refine own_st (T' := T31) (F' := (mkF m 25 #[.val (.int x0), .val (.int (8 : Int32)), .val (.ref w_VAL0)] [(.int (8 : Int32)), (.int (8 : Int32))])) (fun t k => XS.iloadN X31.here hx rfl (hb hby at_24) rfl k) ?_
                refine own_st (T' := T31) (F' := (mkF m 28 #[.val (.int x0), .val (.int (8 : Int32)), .val (.ref w_VAL0)] [])) (fun t k => XS.icmpNo X31.here hx rfl (hb hby at_25) rfl (teq rfl).2 k) ?_
                refine own_st (T' := T31) (F' := (mkF m 29 #[.val (.int x0), .val (.int (8 : Int32)), .val (.ref w_VAL0)] [(.int (1 : Int32))])) (fun t k => XS.iconst X31.here hx rfl (hb hby at_28) k) ?_
                refine own_st (T' := T31) (F' := (mkF m 33 #[.val (.int x0), .val (.int (8 : Int32)), .val (.ref w_VAL0)] [(.int (1 : Int32))])) (fun t k => XS.goto X31.here hx rfl (pc0 := 29) (pc' := 33) rfl (hb hby at_29) (by decide) (by decide) k) ?_
                exact own_retN X31 hx (t := .boolean) Bd.returns (by simp) (by decide) (hb hby at_33) hlk (by show Q0 Z _ T31.heap _; rw [e31]; exact ⟨rfl, N⟩) (by decide) (by decide)
set_option maxRecDepth 65536 in
set_option maxHeartbeats 40000000 in
theorem comes_1 {Post : Tables → Env → Array Value → State → Outcome → State → Prop} (hpost : ∀ tb e args s v u, (limb_1_1.after args s (.returned v) u = true ∧ limb_1_2.after args s (.returned v) u = true ∧ True) → FrameEnd s (.returned v) u (Jvm.fieldLocs frame_1_writes args s ++ Jvm.arrayLocs frame_1_arrays args s ++ Jvm.staticLocs frame_1_statics s) 16 128 → Post tb e args s (.returned v) u) :
    ArmFor flags0 classFile x code maxLocals ret World_1 tables_1 room_1 Calls_1 rest_1 Pre_1 Post := by
  intro l hfl _ _ p e ha hc hk s m args below hf hA hF happ hP
  obtain ⟨hcalls, hrest, hpre⟩ := hP
  obtain ⟨-, -, -, hnamed, -, -, -, hat⟩ := (Spec.applies_iff hf).mp happ
  obtain ⟨hg, hn⟩ := and_e (Cond.before_iff.mp (show (Jvm.Cond.and given_1 narrow_1).before args s = true from hpre))
  obtain ⟨g0, g1⟩ := and_e hg
  obtain ⟨w0, rfl⟩ : ∃ w0 : Value, args = #[w0] := by
    have hs : args.size = 1 := by simpa [Cond.value, given_1] using g0
    obtain ⟨L⟩ := args
    match L, hs with
    | [w0], _ => exact ⟨w0, rfl⟩
  have hw := fun d (hd : d ∈ tables_1) => atoms_spec (ws := Jvm.Cond.code x code maxLocals ret :: tables_1) hat d (List.mem_cons_of_mem _ hd)
  have hfit : Fit s := fun {y c} hc i hi => by
    obtain ⟨ha, rfl⟩ := Array.getElem?_eq_some_iff.mp hc
    have q := List.all_eq_true.mp ((Array.all_eq_true_iff_forall_mem.mp hF) _ (Array.getElem_mem ha)) i (List.mem_range.mpr hi)
    simpa [Array.getElem?_eq_getElem hi] using q
  obtain ⟨i0, ei0⟩ := is_v g1
  obtain rfl : w0 = (.int i0) := Option.some.inj ei0
  obtain ⟨n0a, n0b⟩ := and_e hn
  obtain ⟨n1a, n1b⟩ := and_e n0b
  obtain ⟨n2a, n2b⟩ := and_e n1b
  obtain ⟨n3a, n3b⟩ := and_e n2b
  obtain ⟨n4a, n4b⟩ := and_e n3b
  obtain ⟨n5a, n5b⟩ := and_e n4b
  obtain ⟨n6a, n6b⟩ := and_e n5b
  obtain ⟨n7a, n7b⟩ := and_e n6b
  obtain ⟨n8a, n8b⟩ := and_e n7b
  obtain ⟨n9a, n9b⟩ := and_e n8b
  obtain ⟨n10a, n10b⟩ := and_e n9b
  obtain ⟨n11a, n11b⟩ := and_e n10b
  obtain ⟨n12a, n12b⟩ := and_e n11b
  obtain ⟨n13a, n13b⟩ := and_e n12b
  obtain ⟨n14a, n14b⟩ := and_e n13b
  obtain ⟨n15a, n15b⟩ := and_e n14b
  obtain ⟨n16a, n16b⟩ := and_e n15b
  obtain ⟨n17a, n17b⟩ := and_e n16b
  obtain ⟨n18a, n18b⟩ := and_e n17b
  obtain ⟨n19a, n19b⟩ := and_e n18b
  obtain ⟨n20a, n20b⟩ := and_e n19b
  obtain ⟨n21a, n21b⟩ := and_e n20b
  obtain ⟨n22a, n22b⟩ := and_e n21b
  obtain ⟨n23a, n23b⟩ := and_e n22b
  obtain ⟨n24a, n24b⟩ := and_e n23b
  obtain ⟨n25a, n25b⟩ := and_e n24b
  obtain ⟨w_VAL, v_VAL⟩ := arr_v n0a
  have S_VAL := Sta.start v_VAL (Or.inr ⟨(hw _ (List.mem_of_getElem? (i := 2) rfl)), (hw _ (List.mem_of_getElem? (i := 8) rfl))⟩)
  have E_VAL := Exa.start v_VAL n1a
  obtain ⟨cl_VAL, A_VAL⟩ := Arr.start v_VAL n0a
  obtain ⟨z1_VAL, z2_VAL⟩ := own_len (own_eq_int n2a) v_VAL A_VAL.1
  obtain ⟨w_VAL0, v_VAL0⟩ := exa_v n3a
  have E_VAL0 := Exa.start v_VAL0 n3a
  have M0_VAL := elem_in v_VAL0 v_VAL rfl A_VAL.1
  obtain ⟨w_VAL1, v_VAL1⟩ := exa_v n4a
  have E_VAL1 := Exa.start v_VAL1 n4a
  have M1_VAL := elem_in v_VAL1 v_VAL rfl A_VAL.1
  obtain ⟨w_VAL2, v_VAL2⟩ := exa_v n5a
  have E_VAL2 := Exa.start v_VAL2 n5a
  have M2_VAL := elem_in v_VAL2 v_VAL rfl A_VAL.1
  obtain ⟨w_VAL3, v_VAL3⟩ := exa_v n6a
  have E_VAL3 := Exa.start v_VAL3 n6a
  have M3_VAL := elem_in v_VAL3 v_VAL rfl A_VAL.1
  obtain ⟨w_VAL4, v_VAL4⟩ := exa_v n7a
  have E_VAL4 := Exa.start v_VAL4 n7a
  have M4_VAL := elem_in v_VAL4 v_VAL rfl A_VAL.1
  obtain ⟨w_VAL5, v_VAL5⟩ := exa_v n8a
  have E_VAL5 := Exa.start v_VAL5 n8a
  have M5_VAL := elem_in v_VAL5 v_VAL rfl A_VAL.1
  obtain ⟨w_VAL6, v_VAL6⟩ := exa_v n9a
  have E_VAL6 := Exa.start v_VAL6 n9a
  have M6_VAL := elem_in v_VAL6 v_VAL rfl A_VAL.1
  obtain ⟨w_VAL7, v_VAL7⟩ := exa_v n10a
  have E_VAL7 := Exa.start v_VAL7 n10a
  have M7_VAL := elem_in v_VAL7 v_VAL rfl A_VAL.1
  have O_VAL0 := Fld.start (own_fld_int v_VAL0 n11a)
  have O_VAL1 := Fld.start (own_fld_int v_VAL1 n12a)
  have S_INTEGER := Sta.start (own_eq_ref n13a v_VAL1) (Or.inr ⟨(hw _ (List.mem_of_getElem? (i := 2) rfl)), (hw _ (List.mem_of_getElem? (i := 27) rfl))⟩)
  have O_VAL2 := Fld.start (own_fld_int v_VAL2 n14a)
  have O_VAL3 := Fld.start (own_fld_int v_VAL3 n15a)
  have O_VAL4 := Fld.start (own_fld_int v_VAL4 n16a)
  have S_DECIMAL := Sta.start (own_eq_ref n17a v_VAL4) (Or.inr ⟨(hw _ (List.mem_of_getElem? (i := 2) rfl)), (hw _ (List.mem_of_getElem? (i := 37) rfl))⟩)
  have O_VAL5 := Fld.start (own_fld_int v_VAL5 n18a)
  have O_VAL6 := Fld.start (own_fld_int v_VAL6 n19a)
  have O_VAL7 := Fld.start (own_fld_int v_VAL7 n20a)
  have S_NULL := Sta.start (own_eq_ref n21a v_VAL7) (Or.inr ⟨(hw _ (List.mem_of_getElem? (i := 2) rfl)), (hw _ (List.mem_of_getElem? (i := 43) rfl))⟩)
  have S_SHORT := Sta.start (own_eq_ref n22a v_VAL0) (Or.inr ⟨(hw _ (List.mem_of_getElem? (i := 2) rfl)), (hw _ (List.mem_of_getElem? (i := 46) rfl))⟩)
  have S_DOUBLE := Sta.start (own_eq_ref n23a v_VAL3) (Or.inr ⟨(hw _ (List.mem_of_getElem? (i := 2) rfl)), (hw _ (List.mem_of_getElem? (i := 49) rfl))⟩)
  have S_LONG := Sta.start (own_eq_ref n24a v_VAL2) (Or.inr ⟨(hw _ (List.mem_of_getElem? (i := 2) rfl)), (hw _ (List.mem_of_getElem? (i := 52) rfl))⟩)
  have S_TEXT := Sta.start (own_eq_ref n25a v_VAL5) (Or.inr ⟨(hw _ (List.mem_of_getElem? (i := 2) rfl)), (hw _ (List.mem_of_getElem? (i := 55) rfl))⟩)
  have S_UUID := Sta.start (own_eq_ref n25b v_VAL6) (Or.inr ⟨(hw _ (List.mem_of_getElem? (i := 2) rfl)), (hw _ (List.mem_of_getElem? (i := 58) rfl))⟩)
  have V_VAL : Arv s s.heap w_VAL cl_VAL.cls (.object "com/example/turnleaf/turnleaf/token/KeyType") (8 : Int32) [(.ref w_VAL0), (.ref w_VAL1), (.ref w_VAL2), (.ref w_VAL3), (.ref w_VAL4), (.ref w_VAL5), (.ref w_VAL6), (.ref w_VAL7)] .null := Arv.start hfit A_VAL z1_VAL z2_VAL (by decide) rfl ⟨M0_VAL.2, M1_VAL.2, M2_VAL.2, M3_VAL.2, M4_VAL.2, M5_VAL.2, M6_VAL.2, M7_VAL.2, trivial⟩
  obtain ⟨k_VAL, hk_VAL⟩ : ∃ z, z = cl_VAL.cls := ⟨_, rfl⟩
  rw [← hk_VAL] at V_VAL
  have CX : Ctx s _ w_VAL k_VAL w_VAL0 w_VAL1 w_VAL2 w_VAL3 w_VAL4 w_VAL5 w_VAL6 w_VAL7 := ⟨hw, E_VAL0, E_VAL1, E_VAL2, E_VAL3, E_VAL4, E_VAL5, E_VAL6, E_VAL7, O_VAL0, O_VAL1, S_INTEGER, O_VAL2, O_VAL3, O_VAL4, S_DECIMAL, O_VAL5, O_VAL6, O_VAL7, S_NULL, S_SHORT, S_DOUBLE, S_LONG, S_TEXT, S_UUID, S_VAL, E_VAL, V_VAL, trivial⟩
  obtain ⟨n, o, h1, h2, h3, _, L, rfl, ⟨rfl, N⟩, hq⟩ := rm0 l s _ CX tables_1 i0 s.heap (own_ext_refl _)  p e ha hc hk s m _ below hf ((Spec.applies_iff_loose hf).mp happ).1 ⟨rfl, State.Warmed39.refl s, rfl⟩ trivial
  refine ⟨n, _, h1, h2, h3, hpost _ _ _ _ _ _ ⟨Cond.after_iff.mpr rfl, Cond.after_iff.mpr (eq_i res_at (Term.int_eval (1)) rfl), trivial⟩ ⟨hq.1, hq.2.1, (hq.2.2.sift fun y hy => Or.inr (N y hy)).mono (by decide) (by decide)⟩⟩
theorem main_1_1 : Claimed_1_1 := comes_1 fun _ _ _ _ _ _ h hF => ⟨h.1, hF⟩
theorem main_1_2 : Claimed_1_2 := comes_1 fun _ _ _ _ _ _ h hF => ⟨h.2.1, hF⟩
end Jvm.Pilot.@@N@@
namespace Jvm.Pilot.@@N@@
open Jvm Jvm.ClassFile Sem Op Lib Jvm.Free Jvm.Stand Jvm.Pilot.@@N@@.Jvm.D
/-! MADE BY PROGRAM (witnessworld.py) out of the Statement's table words and the real class files: 21 classes; the members and pool entries that the words name. The judged class is class 1, her method 2. -/
namespace start1
open Jvm.ClassFile
def u (s : String) : CpInfo := .utf8 (stringToUtf16 s)
/-- a pool by its gaps: so many unusable entries, then the entry; so many at the end -/
def gap : Nat → List CpInfo → List CpInfo
  | 0, r => r
  | n + 1, r => .unusable :: gap n r
def poolList (es : List (Nat × CpInfo)) (last : Nat) : List CpInfo := es.foldr (fun e r => gap e.1 (e.2 :: r)) (gap last [])
def pool (es : List (Nat × CpInfo)) (last : Nat) : Array CpInfo := ⟨poolList es last⟩
def fileOf (pool : Array CpInfo) (this : Nat) (attrs : Array Attribute := #[]) (ms : Array MethodInfo := #[]) (fl : Nat := 33) (sup : Nat := 0) (ifs : Array Nat := #[]) (fds : Array FieldInfo := #[]) : ClassFile where
  minorVersion := 0
  majorVersion := 65
  constantPool := pool
  accessFlags := fl
  thisClass := this
  superClass := sup
  interfaces := ifs
  fields := fds
  methods := ms
  attributes := attrs
def plain (name : String) (sup : Option ClassId) : Class where
  name := name
  kind := .ordinary
  loader := none
  accessFlags := 33
  super := sup
  interfaces := #[]
  cf := none
  fields := #[]
  methods := #[]
  instanceTypes := #[]
  staticTypes := #[]
  resolved := #[]
  callSites := []
  init := .initialized
  statics := none
  mirror := none

def pool0 : Array CpInfo := pool [(5, u "<init>"), (0, u "()V"), (1, .class_ 10), (1, u "java/lang/Object"), (85, u "clone"), (0, u "()Ljava/lang/Object;")] 26

def k0m0 : Method := { name := "<init>", desc := "()V", sig := { parameters := [], returnType := none }, accessFlags := 1, code := none }
def k0m1 : Method := { name := "clone", desc := "()Ljava/lang/Object;", sig := { parameters := [], returnType := some (.object "java/lang/Object") }, accessFlags := 260, code := none }
/-- java/lang/Object -/
def k0 : Class := { plain "java/lang/Object" none with
  accessFlags := 33
  interfaces := #[]
  cf := some (fileOf pool0 8 #[] #[{ accessFlags := 1, nameIndex := 5, descriptorIndex := 6, attributes := #[] }, { accessFlags := 260, nameIndex := 96, descriptorIndex := 97, attributes := #[] }] 33 0 #[] #[])
  fields := #[]
  methods := #[k0m0, k0m1]
  instanceTypes := #[]
  staticTypes := #[]
  resolved := Array.replicate 124 none
  statics := none }

def pool1 : Array CpInfo := pool [(2, .class_ 4), (1, u "java/lang/Object"), (0, u "<init>"), (0, u "()V"), (0, .fieldref 8 9), (0, .class_ 10), (0, .nameAndType 11 12), (0, u "com/example/turnleaf/turnleaf/token/KeyType"), (0, u "INTEGER"), (0, u "Lcom/example/turnleaf/turnleaf/token/KeyType;"), (0, .fieldref 8 14), (0, .nameAndType 15 12), (0, u "LONG"), (0, .fieldref 8 17), (0, .nameAndType 18 12), (0, u "DOUBLE"), (0, .fieldref 8 20), (0, .nameAndType 21 12), (0, u "DECIMAL"), (0, .fieldref 8 23), (0, .nameAndType 24 12), (0, u "TEXT"), (0, .fieldref 8 26), (0, .nameAndType 27 12), (0, u "UUID"), (0, .fieldref 8 29), (0, .nameAndType 30 12), (0, u "NULL"), (0, .fieldref 8 32), (0, .nameAndType 33 12), (0, u "SHORT"), (0, .methodref 8 35), (0, .nameAndType 36 37), (0, u "ofTag"), (0, u "(I)Lcom/example/turnleaf/turnleaf/token/KeyType;"), (0, .methodref 39 40), (0, .class_ 41), (0, .nameAndType 42 37), (0, u "com/example/turnleaf/turnleaf/token/KeyTypeOfTagPinLaw"), (0, u "expected"), (0, .methodref 8 44), (0, .nameAndType 45 46), (0, u "tag"), (0, u "()I"), (3, u "law"), (0, u "(I)Z")] 5

def k1m0 : Method := { name := "<init>", desc := "()V", sig := { parameters := [], returnType := none }, accessFlags := 2, code := none }
def k1c1 : Code := { maxStack := 2, maxLocals := 1, code := method_2_code, exceptionTable := #[], attributes := #[] }
def k1m1 : Method := { name := "expected", desc := "(I)Lcom/example/turnleaf/turnleaf/token/KeyType;", sig := { parameters := [.int], returnType := some (.object "com/example/turnleaf/turnleaf/token/KeyType") }, accessFlags := 10, code := some k1c1 }
def k1c2 : Code := { maxStack := 2, maxLocals := 3, code := code, exceptionTable := #[], attributes := #[] }
def k1m2 : Method := { name := "law", desc := "(I)Z", sig := { parameters := [.int], returnType := some .boolean }, accessFlags := 9, code := some k1c2 }
/-- com/example/turnleaf/turnleaf/token/KeyTypeOfTagPinLaw -/
def k1 : Class := { plain "com/example/turnleaf/turnleaf/token/KeyTypeOfTagPinLaw" (some 0) with
  accessFlags := 49
  interfaces := #[]
  cf := some (fileOf pool1 39 #[] #[{ accessFlags := 2, nameIndex := 5, descriptorIndex := 6, attributes := #[] }, { accessFlags := 10, nameIndex := 42, descriptorIndex := 37, attributes := #[] }, { accessFlags := 9, nameIndex := 50, descriptorIndex := 51, attributes := #[] }] 49 2 #[] #[])
  fields := #[]
  methods := #[k1m0, k1m1, k1m2]
  instanceTypes := #[]
  staticTypes := #[]
  resolved := Array.replicate 57 none
  statics := none }

def pool2 : Array CpInfo := pool [(1, .class_ 2), (0, u "java/lang/constant/Constable"), (0, .class_ 4), (0, u "java/lang/Object")] 6

/-- java/lang/constant/Constable -/
def k2 : Class := { plain "java/lang/constant/Constable" (some 0) with
  accessFlags := 1537
  interfaces := #[]
  cf := some (fileOf pool2 1 #[] #[] 1537 3 #[] #[])
  fields := #[]
  methods := #[]
  instanceTypes := #[]
  staticTypes := #[]
  resolved := Array.replicate 11 none
  statics := none }

def pool3 : Array CpInfo := pool [(1, .class_ 2), (0, u "java/lang/Comparable"), (0, .class_ 4), (0, u "java/lang/Object")] 7

/-- java/lang/Comparable -/
def k3 : Class := { plain "java/lang/Comparable" (some 0) with
  accessFlags := 1537
  interfaces := #[]
  cf := some (fileOf pool3 1 #[] #[] 1537 3 #[] #[])
  fields := #[]
  methods := #[]
  instanceTypes := #[]
  staticTypes := #[]
  resolved := Array.replicate 12 none
  statics := none }

def pool4 : Array CpInfo := pool [(1, .class_ 2), (0, u "java/io/Serializable"), (0, .class_ 4), (0, u "java/lang/Object")] 2

/-- java/io/Serializable -/
def k4 : Class := { plain "java/io/Serializable" (some 0) with
  accessFlags := 1537
  interfaces := #[]
  cf := some (fileOf pool4 1 #[] #[] 1537 3 #[] #[])
  fields := #[]
  methods := #[]
  instanceTypes := #[]
  staticTypes := #[]
  resolved := Array.replicate 7 none
  statics := none }

def pool5 : Array CpInfo := pool [(2, .class_ 4), (1, u "java/lang/Enum"), (0, u "name"), (0, u "Ljava/lang/String;"), (2, u "ordinal"), (0, u "I"), (1, .class_ 14), (1, u "java/lang/Object"), (4, u "hash"), (86, .class_ 108), (1, u "java/lang/Enum$EnumDesc"), (2, .class_ 112), (0, u "java/lang/constant/Constable"), (0, .class_ 114), (0, u "java/lang/Comparable"), (0, .class_ 116), (0, u "java/io/Serializable")] 87

/-- java/lang/Enum -/
def k5 : Class := { plain "java/lang/Enum" (some 0) with
  accessFlags := 1057
  interfaces := #[2, 3, 4]
  cf := some (fileOf pool5 2 #[.nestMembers #[106]] #[] 1057 12 #[111, 113, 115] #[{ accessFlags := 18, nameIndex := 5, descriptorIndex := 6, attributes := #[] }, { accessFlags := 18, nameIndex := 9, descriptorIndex := 10, attributes := #[] }, { accessFlags := 2, nameIndex := 19, descriptorIndex := 10, attributes := #[] }])
  fields := #[{ name := "name", type := (.object "java/lang/String"), accessFlags := 18, slot := 0, constantValue := 0 }, { name := "ordinal", type := .int, accessFlags := 18, slot := 1, constantValue := 0 }, { name := "hash", type := .int, accessFlags := 2, slot := 2, constantValue := 0 }]
  methods := #[]
  instanceTypes := #[(.object "java/lang/String"), .int, .int]
  staticTypes := #[]
  resolved := Array.replicate 204 none
  statics := none }

def pool6 : Array CpInfo := pool [(1, .class_ 2), (0, u "com/example/turnleaf/turnleaf/token/KeyType"), (2, u "SHORT"), (0, u "Lcom/example/turnleaf/turnleaf/token/KeyType;"), (2, u "INTEGER"), (2, u "LONG"), (2, u "DOUBLE"), (2, u "DECIMAL"), (2, u "TEXT"), (2, u "UUID"), (2, u "NULL"), (0, .fieldref 1 29), (0, .nameAndType 30 31), (0, u "$VALUES"), (0, u "[Lcom/example/turnleaf/turnleaf/token/KeyType;"), (0, .methodref 33 34), (0, .class_ 31), (0, .nameAndType 35 36), (0, u "clone"), (0, u "()Ljava/lang/Object;"), (1, .class_ 40), (1, u "java/lang/Enum"), (6, .fieldref 1 48), (0, .nameAndType 49 50), (0, u "tag"), (0, u "I"), (2, u "valueClass"), (0, u "Ljava/lang/Class;"), (0, .methodref 1 56), (0, .nameAndType 57 58), (0, u "values"), (0, u "()[Lcom/example/turnleaf/turnleaf/token/KeyType;"), (84, u "()I"), (14, .class_ 159), (0, u "com/example/turnleaf/turnleaf/token/KeyType$1"), (6, .class_ 167), (0, u "com/example/turnleaf/turnleaf/token/KeyType$2"), (4, .class_ 173), (0, u "com/example/turnleaf/turnleaf/token/KeyType$3"), (4, .class_ 179), (0, u "com/example/turnleaf/turnleaf/token/KeyType$4"), (4, .class_ 185), (0, u "com/example/turnleaf/turnleaf/token/KeyType$5"), (4, .class_ 191), (0, u "com/example/turnleaf/turnleaf/token/KeyType$6"), (2, .class_ 195), (0, u "com/example/turnleaf/turnleaf/token/KeyType$7"), (4, .class_ 201), (0, u "com/example/turnleaf/turnleaf/token/KeyType$8"), (21, u "ofTag"), (0, u "(I)Lcom/example/turnleaf/turnleaf/token/KeyType;")] 50

def k6c0 : Code := { maxStack := 1, maxLocals := 0, code := prog_36_method_1_code, exceptionTable := #[], attributes := #[] }
def k6m0 : Method := { name := "values", desc := "()[Lcom/example/turnleaf/turnleaf/token/KeyType;", sig := { parameters := [], returnType := some (.array (.object "com/example/turnleaf/turnleaf/token/KeyType")) }, accessFlags := 9, code := some k6c0 }
def k6c1 : Code := { maxStack := 1, maxLocals := 1, code := prog_36_method_4_code, exceptionTable := #[], attributes := #[] }
def k6m1 : Method := { name := "tag", desc := "()I", sig := { parameters := [], returnType := some .int }, accessFlags := 0, code := some k6c1 }
def k6c2 : Code := { maxStack := 3, maxLocals := 5, code := prog_36_method_8_code, exceptionTable := #[], attributes := #[] }
def k6m2 : Method := { name := "ofTag", desc := "(I)Lcom/example/turnleaf/turnleaf/token/KeyType;", sig := { parameters := [.int], returnType := some (.object "com/example/turnleaf/turnleaf/token/KeyType") }, accessFlags := 8, code := some k6c2 }
/-- com/example/turnleaf/turnleaf/token/KeyType -/
def k6 : Class := { plain "com/example/turnleaf/turnleaf/token/KeyType" (some 5) with
  accessFlags := 17440
  interfaces := #[]
  cf := some (fileOf pool6 1 #[.nestMembers #[200, 194, 190, 184, 178, 172, 166, 158]] #[{ accessFlags := 9, nameIndex := 57, descriptorIndex := 58, attributes := #[] }, { accessFlags := 0, nameIndex := 49, descriptorIndex := 143, attributes := #[] }, { accessFlags := 8, nameIndex := 223, descriptorIndex := 224, attributes := #[] }] 17440 38 #[] #[{ accessFlags := 16409, nameIndex := 5, descriptorIndex := 6, attributes := #[] }, { accessFlags := 16409, nameIndex := 9, descriptorIndex := 6, attributes := #[] }, { accessFlags := 16409, nameIndex := 12, descriptorIndex := 6, attributes := #[] }, { accessFlags := 16409, nameIndex := 15, descriptorIndex := 6, attributes := #[] }, { accessFlags := 16409, nameIndex := 18, descriptorIndex := 6, attributes := #[] }, { accessFlags := 16409, nameIndex := 21, descriptorIndex := 6, attributes := #[] }, { accessFlags := 16409, nameIndex := 24, descriptorIndex := 6, attributes := #[] }, { accessFlags := 16409, nameIndex := 27, descriptorIndex := 6, attributes := #[] }, { accessFlags := 18, nameIndex := 49, descriptorIndex := 50, attributes := #[] }, { accessFlags := 18, nameIndex := 53, descriptorIndex := 54, attributes := #[] }, { accessFlags := 4122, nameIndex := 30, descriptorIndex := 31, attributes := #[] }])
  fields := #[{ name := "SHORT", type := (.object "com/example/turnleaf/turnleaf/token/KeyType"), accessFlags := 16409, slot := 0, constantValue := 0 }, { name := "INTEGER", type := (.object "com/example/turnleaf/turnleaf/token/KeyType"), accessFlags := 16409, slot := 1, constantValue := 0 }, { name := "LONG", type := (.object "com/example/turnleaf/turnleaf/token/KeyType"), accessFlags := 16409, slot := 2, constantValue := 0 }, { name := "DOUBLE", type := (.object "com/example/turnleaf/turnleaf/token/KeyType"), accessFlags := 16409, slot := 3, constantValue := 0 }, { name := "DECIMAL", type := (.object "com/example/turnleaf/turnleaf/token/KeyType"), accessFlags := 16409, slot := 4, constantValue := 0 }, { name := "TEXT", type := (.object "com/example/turnleaf/turnleaf/token/KeyType"), accessFlags := 16409, slot := 5, constantValue := 0 }, { name := "UUID", type := (.object "com/example/turnleaf/turnleaf/token/KeyType"), accessFlags := 16409, slot := 6, constantValue := 0 }, { name := "NULL", type := (.object "com/example/turnleaf/turnleaf/token/KeyType"), accessFlags := 16409, slot := 7, constantValue := 0 }, { name := "tag", type := .int, accessFlags := 18, slot := 3, constantValue := 0 }, { name := "valueClass", type := (.object "java/lang/Class"), accessFlags := 18, slot := 4, constantValue := 0 }, { name := "$VALUES", type := (.array (.object "com/example/turnleaf/turnleaf/token/KeyType")), accessFlags := 4122, slot := 8, constantValue := 0 }]
  methods := #[k6m0, k6m1, k6m2]
  instanceTypes := #[(.object "java/lang/String"), .int, .int, .int, (.object "java/lang/Class")]
  staticTypes := #[(.object "com/example/turnleaf/turnleaf/token/KeyType"), (.object "com/example/turnleaf/turnleaf/token/KeyType"), (.object "com/example/turnleaf/turnleaf/token/KeyType"), (.object "com/example/turnleaf/turnleaf/token/KeyType"), (.object "com/example/turnleaf/turnleaf/token/KeyType"), (.object "com/example/turnleaf/turnleaf/token/KeyType"), (.object "com/example/turnleaf/turnleaf/token/KeyType"), (.object "com/example/turnleaf/turnleaf/token/KeyType"), (.array (.object "com/example/turnleaf/turnleaf/token/KeyType"))]
  resolved := Array.replicate 275 none
  statics := some 0 }

def pool7 : Array CpInfo := pool [(1, .class_ 2), (0, u "java/lang/Cloneable"), (0, .class_ 4), (0, u "java/lang/Object")] 2

/-- java/lang/Cloneable -/
def k7 : Class := { plain "java/lang/Cloneable" (some 0) with
  accessFlags := 1537
  interfaces := #[]
  cf := some (fileOf pool7 1 #[] #[] 1537 3 #[] #[])
  fields := #[]
  methods := #[]
  instanceTypes := #[]
  staticTypes := #[]
  resolved := Array.replicate 7 none
  statics := none }

def pool8 : Array CpInfo := pool [(2, .class_ 4), (1, u "com/example/turnleaf/turnleaf/token/KeyType"), (23, .class_ 29), (0, u "com/example/turnleaf/turnleaf/token/KeyType$1")] 15

/-- com/example/turnleaf/turnleaf/token/KeyType$1 -/
def k8 : Class := { plain "com/example/turnleaf/turnleaf/token/KeyType$1" (some 6) with
  accessFlags := 16432
  interfaces := #[]
  cf := some (fileOf pool8 28 #[.nestHost 2] #[] 16432 2 #[] #[])
  fields := #[]
  methods := #[]
  instanceTypes := #[(.object "java/lang/String"), .int, .int, .int, (.object "java/lang/Class")]
  staticTypes := #[]
  resolved := Array.replicate 45 none
  statics := none }

def pool9 : Array CpInfo := pool [(2, .class_ 4), (1, u "com/example/turnleaf/turnleaf/token/KeyType"), (23, .class_ 29), (0, u "com/example/turnleaf/turnleaf/token/KeyType$2")] 15

/-- com/example/turnleaf/turnleaf/token/KeyType$2 -/
def k9 : Class := { plain "com/example/turnleaf/turnleaf/token/KeyType$2" (some 6) with
  accessFlags := 16432
  interfaces := #[]
  cf := some (fileOf pool9 28 #[.nestHost 2] #[] 16432 2 #[] #[])
  fields := #[]
  methods := #[]
  instanceTypes := #[(.object "java/lang/String"), .int, .int, .int, (.object "java/lang/Class")]
  staticTypes := #[]
  resolved := Array.replicate 45 none
  statics := none }

def pool10 : Array CpInfo := pool [(2, .class_ 4), (1, u "com/example/turnleaf/turnleaf/token/KeyType"), (23, .class_ 29), (0, u "com/example/turnleaf/turnleaf/token/KeyType$3")] 15

/-- com/example/turnleaf/turnleaf/token/KeyType$3 -/
def k10 : Class := { plain "com/example/turnleaf/turnleaf/token/KeyType$3" (some 6) with
  accessFlags := 16432
  interfaces := #[]
  cf := some (fileOf pool10 28 #[.nestHost 2] #[] 16432 2 #[] #[])
  fields := #[]
  methods := #[]
  instanceTypes := #[(.object "java/lang/String"), .int, .int, .int, (.object "java/lang/Class")]
  staticTypes := #[]
  resolved := Array.replicate 45 none
  statics := none }

def pool11 : Array CpInfo := pool [(2, .class_ 4), (1, u "com/example/turnleaf/turnleaf/token/KeyType"), (32, .class_ 38), (0, u "com/example/turnleaf/turnleaf/token/KeyType$4")] 15

/-- com/example/turnleaf/turnleaf/token/KeyType$4 -/
def k11 : Class := { plain "com/example/turnleaf/turnleaf/token/KeyType$4" (some 6) with
  accessFlags := 16432
  interfaces := #[]
  cf := some (fileOf pool11 37 #[.nestHost 2] #[] 16432 2 #[] #[])
  fields := #[]
  methods := #[]
  instanceTypes := #[(.object "java/lang/String"), .int, .int, .int, (.object "java/lang/Class")]
  staticTypes := #[]
  resolved := Array.replicate 54 none
  statics := none }

def pool12 : Array CpInfo := pool [(2, .class_ 4), (1, u "com/example/turnleaf/turnleaf/token/KeyType"), (56, .class_ 62), (0, u "com/example/turnleaf/turnleaf/token/KeyType$5")] 16

/-- com/example/turnleaf/turnleaf/token/KeyType$5 -/
def k12 : Class := { plain "com/example/turnleaf/turnleaf/token/KeyType$5" (some 6) with
  accessFlags := 16432
  interfaces := #[]
  cf := some (fileOf pool12 61 #[.nestHost 2] #[] 16432 2 #[] #[])
  fields := #[]
  methods := #[]
  instanceTypes := #[(.object "java/lang/String"), .int, .int, .int, (.object "java/lang/Class")]
  staticTypes := #[]
  resolved := Array.replicate 79 none
  statics := none }

def pool13 : Array CpInfo := pool [(2, .class_ 4), (1, u "com/example/turnleaf/turnleaf/token/KeyType"), (69, .class_ 75), (0, u "com/example/turnleaf/turnleaf/token/KeyType$6")] 15

/-- com/example/turnleaf/turnleaf/token/KeyType$6 -/
def k13 : Class := { plain "com/example/turnleaf/turnleaf/token/KeyType$6" (some 6) with
  accessFlags := 16432
  interfaces := #[]
  cf := some (fileOf pool13 74 #[.nestHost 2] #[] 16432 2 #[] #[])
  fields := #[]
  methods := #[]
  instanceTypes := #[(.object "java/lang/String"), .int, .int, .int, (.object "java/lang/Class")]
  staticTypes := #[]
  resolved := Array.replicate 91 none
  statics := none }

def pool14 : Array CpInfo := pool [(2, .class_ 4), (1, u "com/example/turnleaf/turnleaf/token/KeyType"), (25, .class_ 31), (0, u "com/example/turnleaf/turnleaf/token/KeyType$7")] 15

/-- com/example/turnleaf/turnleaf/token/KeyType$7 -/
def k14 : Class := { plain "com/example/turnleaf/turnleaf/token/KeyType$7" (some 6) with
  accessFlags := 16432
  interfaces := #[]
  cf := some (fileOf pool14 30 #[.nestHost 2] #[] 16432 2 #[] #[])
  fields := #[]
  methods := #[]
  instanceTypes := #[(.object "java/lang/String"), .int, .int, .int, (.object "java/lang/Class")]
  staticTypes := #[]
  resolved := Array.replicate 47 none
  statics := none }

def pool15 : Array CpInfo := pool [(2, .class_ 4), (1, u "com/example/turnleaf/turnleaf/token/KeyType"), (2, .class_ 8), (0, u "com/example/turnleaf/turnleaf/token/KeyType$8")] 12

/-- com/example/turnleaf/turnleaf/token/KeyType$8 -/
def k15 : Class := { plain "com/example/turnleaf/turnleaf/token/KeyType$8" (some 6) with
  accessFlags := 16432
  interfaces := #[]
  cf := some (fileOf pool15 7 #[.nestHost 2] #[] 16432 2 #[] #[])
  fields := #[]
  methods := #[]
  instanceTypes := #[(.object "java/lang/String"), .int, .int, .int, (.object "java/lang/Class")]
  staticTypes := #[]
  resolved := Array.replicate 21 none
  statics := none }

/-- the primitive byte -/
def k16 : Class := { plain "byte" none with kind := .primitive 'B', accessFlags := 0x411 }
/-- [B -/
def k17 : Class := { plain "[B" (some 0) with kind := .array 16 .byte, interfaces := #[7, 4], accessFlags := 1041 }

/-- the primitive int -/
def k18 : Class := { plain "int" none with kind := .primitive 'I', accessFlags := 0x411 }
/-- [I -/
def k19 : Class := { plain "[I" (some 0) with kind := .array 18 .int, interfaces := #[7, 4], accessFlags := 1041 }

/-- [Lcom/example/turnleaf/turnleaf/token/KeyType; -/
def k20 : Class := { plain "[Lcom/example/turnleaf/turnleaf/token/KeyType;" (some 0) with kind := .array 6 (.object "com/example/turnleaf/turnleaf/token/KeyType"), interfaces := #[7, 4], accessFlags := 1041 }

def heap : Heap := #[{ cls := 6, slots := #[.ref 2, .ref 3, .ref 4, .ref 5, .ref 6, .ref 7, .ref 8, .ref 9, .ref 1], vm := .statics 6 },
  { cls := 20, slots := #[.ref 2, .ref 3, .ref 4, .ref 5, .ref 6, .ref 7, .ref 8, .ref 9], vm := .none },
  { cls := 8, slots := #[.null, .int 0, .int 0, .int 8, .null], vm := .none },
  { cls := 9, slots := #[.null, .int 1, .int 0, .int 1, .null], vm := .none },
  { cls := 10, slots := #[.null, .int 2, .int 0, .int 2, .null], vm := .none },
  { cls := 11, slots := #[.null, .int 3, .int 0, .int 3, .null], vm := .none },
  { cls := 12, slots := #[.null, .int 4, .int 0, .int 4, .null], vm := .none },
  { cls := 13, slots := #[.null, .int 5, .int 0, .int 5, .null], vm := .none },
  { cls := 14, slots := #[.null, .int 6, .int 0, .int 6, .null], vm := .none },
  { cls := 15, slots := #[.null, .int 7, .int 0, .int 7, .null], vm := .none }]
def classes : Array Class := #[k0, k1, k2, k3, k4, k5, k6, k7, k8, k9, k10, k11, k12, k13, k14, k15, k16, k17, k18, k19, k20]
def interned : List (Array UInt16 × Addr) := []
def slotsUsed : Nat := 57
def theMethod : MethodId := ⟨1, 2⟩
def args0 : Array Value := #[.int 5]
def aboutOver (below : List Frame) : State where
  vm := { classes := classes, interned := interned.toArray }
  heap := heap
  slotsUsed := slotsUsed
  threads := #[{ frames := .invoking theMethod args0 :: below }]
def below0 : List Frame := [.native { method := ⟨0, 0⟩, args := #[] }]
def about1 : State := aboutOver below0
def p0 : Program := .bare "" "" ""
def e0 : Env := launch0.env 0 0 0
theorem w_frames : about1.frames = Frame.invoking theMethod args0 :: below0 := rfl
set_option maxRecDepth 65536 in
theorem w_args : argsFit about1.vm theMethod args0 = true := by decide +kernel
set_option maxRecDepth 65536 in
theorem w_heap : heapFits about1 = true := by decide +kernel
set_option maxRecDepth 65536 in
theorem w_runnable : about1.curStatus? = some .runnable := by decide +kernel
set_option maxRecDepth 65536 in
theorem w_alone : about1.alone = true := by decide +kernel
set_option maxRecDepth 65536 in
theorem w_named : about1.methodNamed? x = some theMethod := by decide +kernel
set_option maxRecDepth 65536 in
theorem w_hears : about1.hears theMethod below0 = true := by decide +kernel
set_option maxRecDepth 65536 in
theorem w_ripe : about1.ripe theMethod args0 below0 = true := by decide +kernel
theorem w_running : about1.status = .running := rfl
set_option maxRecDepth 65536 in
theorem w_room : about1.hasRoom e0.platform room_1 = true :=
  launch0.hasRoom_least _ room_1 (by decide +kernel) (by decide +kernel) (by decide +kernel) (by decide +kernel) (by decide +kernel) (by decide +kernel)
theorem allAtoms_all (ts : List Jvm.Cond) (a : Array Jvm.Value) (st : Jvm.State) : (allAtoms ts).before a st = ts.all (fun c => c.before a st) := by
  induction ts with
  | nil => rfl
  | cons c t ih =>
    show (Jvm.Cond.and c (allAtoms t)).before a st = _
    rw [Jvm.Cond.before_and, ih, List.all_cons]
def words1 : List Jvm.Cond := Jvm.Cond.code x code maxLocals ret :: tables_1
/-- a 'code' word, met by the world's own term for the bytes: nothing is compared byte by byte -/
theorem code_word {y : MethodName} {bytes : ByteArray} {mx : Nat} {rt : Option FieldType} {a : Array Value} {s : State} {m : MethodId} {meth : Method} {c : Code} (h1 : s.methodNamed? y = some m) (h2 : s.vm.method? m = some meth) (h3 : meth.code = some c) (h4 : c.code = bytes)
    (h5 : (c.maxLocals == mx && c.exceptionTable.isEmpty && decide (c.maxStack ≤ mostOperands) && decide (meth.sig.returnType = rt) && !meth.locks && decide (parseMethodDescriptor y.desc = some meth.sig)) = true) : (Jvm.Cond.code y bytes mx rt).before a s = true := by
  simp only [Bool.and_eq_true, beq_iff_eq, Bool.not_eq_true', decide_eq_true_eq] at h5
  obtain ⟨⟨⟨⟨⟨g1, g2⟩, g3⟩, g4⟩, g5⟩, g6⟩ := h5
  simp [Cond.before, Cond.holds, Cond.value, h1, h2, h3, h4, g1, g2, g3, g4, g5, g6]
def isCode : Jvm.Cond → Bool
  | .code _ _ _ _ => true
  | _ => false
theorem all_split {L : List Jvm.Cond} {P : Jvm.Cond → Bool} (h1 : L.all (fun c => isCode c || P c) = true) (h2 : ∀ c ∈ L.filter isCode, P c = true) : L.all P = true := by
  refine List.all_eq_true.mpr fun c hc => ?_
  have h := List.all_eq_true.mp h1 c hc
  rcases Bool.eq_false_or_eq_true (isCode c) with hi | hi
  · exact h2 c (List.mem_filter.mpr ⟨hc, hi⟩)
  · simpa [hi] using h
set_option maxRecDepth 65536 in
theorem w_c0 : (Jvm.Cond.code x code maxLocals ret).before args0 about1 = true := code_word (m := ⟨1, 2⟩) (meth := k1m2) (c := k1c2) (by decide +kernel) rfl rfl rfl (by decide +kernel)
set_option maxRecDepth 65536 in
theorem w_c1 : (Jvm.Cond.code ({ cls := "com/example/turnleaf/turnleaf/token/KeyType", name := "ofTag", desc := "(I)Lcom/example/turnleaf/turnleaf/token/KeyType;" } : Jvm.MethodName) prog_36_method_8_code (5 : Nat) (Option.some (Jvm.ClassFile.FieldType.object "com/example/turnleaf/turnleaf/token/KeyType"))).before args0 about1 = true := code_word (m := ⟨6, 2⟩) (meth := k6m2) (c := k6c2) (by decide +kernel) rfl rfl rfl (by decide +kernel)
set_option maxRecDepth 65536 in
theorem w_c2 : (Jvm.Cond.code ({ cls := "com/example/turnleaf/turnleaf/token/KeyType", name := "values", desc := "()[Lcom/example/turnleaf/turnleaf/token/KeyType;" } : Jvm.MethodName) prog_36_method_1_code (0 : Nat) (Option.some (Jvm.ClassFile.FieldType.array (Jvm.ClassFile.FieldType.object "com/example/turnleaf/turnleaf/token/KeyType")))).before args0 about1 = true := code_word (m := ⟨6, 0⟩) (meth := k6m0) (c := k6c0) (by decide +kernel) rfl rfl rfl (by decide +kernel)
set_option maxRecDepth 65536 in
theorem w_c3 : (Jvm.Cond.code ({ cls := "com/example/turnleaf/turnleaf/token/KeyTypeOfTagPinLaw", name := "expected", desc := "(I)Lcom/example/turnleaf/turnleaf/token/KeyType;" } : Jvm.MethodName) method_2_code (1 : Nat) (Option.some (Jvm.ClassFile.FieldType.object "com/example/turnleaf/turnleaf/token/KeyType"))).before args0 about1 = true := code_word (m := ⟨1, 1⟩) (meth := k1m1) (c := k1c1) (by decide +kernel) rfl rfl rfl (by decide +kernel)
set_option maxRecDepth 65536 in
theorem w_c4 : (Jvm.Cond.code ({ cls := "com/example/turnleaf/turnleaf/token/KeyType", name := "tag", desc := "()I" } : Jvm.MethodName) prog_36_method_4_code (1 : Nat) (Option.some Jvm.ClassFile.FieldType.int)).before args0 about1 = true := code_word (m := ⟨6, 1⟩) (meth := k6m1) (c := k6c1) (by decide +kernel) rfl rfl rfl (by decide +kernel)
def codes1 : List Jvm.Cond := [Jvm.Cond.code x code maxLocals ret, Jvm.Cond.code ({ cls := "com/example/turnleaf/turnleaf/token/KeyType", name := "ofTag", desc := "(I)Lcom/example/turnleaf/turnleaf/token/KeyType;" } : Jvm.MethodName) prog_36_method_8_code (5 : Nat) (Option.some (Jvm.ClassFile.FieldType.object "com/example/turnleaf/turnleaf/token/KeyType")), Jvm.Cond.code ({ cls := "com/example/turnleaf/turnleaf/token/KeyType", name := "values", desc := "()[Lcom/example/turnleaf/turnleaf/token/KeyType;" } : Jvm.MethodName) prog_36_method_1_code (0 : Nat) (Option.some (Jvm.ClassFile.FieldType.array (Jvm.ClassFile.FieldType.object "com/example/turnleaf/turnleaf/token/KeyType"))), Jvm.Cond.code ({ cls := "com/example/turnleaf/turnleaf/token/KeyTypeOfTagPinLaw", name := "expected", desc := "(I)Lcom/example/turnleaf/turnleaf/token/KeyType;" } : Jvm.MethodName) method_2_code (1 : Nat) (Option.some (Jvm.ClassFile.FieldType.object "com/example/turnleaf/turnleaf/token/KeyType")), Jvm.Cond.code ({ cls := "com/example/turnleaf/turnleaf/token/KeyType", name := "tag", desc := "()I" } : Jvm.MethodName) prog_36_method_4_code (1 : Nat) (Option.some Jvm.ClassFile.FieldType.int)]
set_option maxRecDepth 65536 in
theorem codes_eq : words1.filter isCode = codes1 := rfl
theorem w_codes : ∀ c ∈ words1.filter isCode, c.before args0 about1 = true := by
  rw [codes_eq]
  intro c hc
  simp only [codes1, List.mem_cons, List.not_mem_nil, or_false] at hc
  rcases hc with rfl | rfl | rfl | rfl | rfl
  · exact w_c0
  · exact w_c1
  · exact w_c2
  · exact w_c3
  · exact w_c4
set_option maxRecDepth 65536 in
theorem w_t1 : (words1.take 24).all (fun c => isCode c || c.before args0 about1) = true := by decide +kernel
set_option maxRecDepth 65536 in
theorem w_t2 : ((words1.drop 24).take 24).all (fun c => isCode c || c.before args0 about1) = true := by decide +kernel
set_option maxRecDepth 65536 in
theorem w_t3 : ((words1.drop 24).drop 24).all (fun c => isCode c || c.before args0 about1) = true := by decide +kernel
theorem w_tables : (allAtoms (Jvm.Cond.code x code maxLocals ret :: tables_1)).before args0 about1 = true := by
  rw [allAtoms_all]
  show words1.all (fun c => c.before args0 about1) = true
  refine all_split ?_ w_codes
  rw [← List.take_append_drop 24 words1, List.all_append, w_t1, ← List.take_append_drop 24 (words1.drop 24), List.all_append, w_t2, w_t3]
  rfl
set_option maxRecDepth 65536 in
theorem w_case : (Jvm.Cond.and given_1 narrow_1).before args0 about1 = true := by decide +kernel
theorem w_applies : (headSpec (Jvm.Cond.code x code maxLocals ret :: tables_1) room_1).applies x e0.platform about1 = true :=
  (Spec.applies_iff w_frames).mpr ⟨w_running, w_runnable, w_alone, w_named, w_hears, w_ripe, w_room, w_tables⟩
theorem atStart : AtStart classFile x code maxLocals ret World_1 tables_1 room_1 Calls_1 rest_1 Pre_1 launch0 p0 e0 about1 theMethod args0 below0 :=
  ⟨lists_1, trivial, launch0.admits_env _ _ _, launch0.least_env, fairChoices_fair.cas, fairChoices_fair.clock, w_frames, w_args, w_heap, w_applies, trivial, trivial, w_case⟩
end start1
theorem witness_1 : WitnessClaimed_1 := ⟨start1.p0, start1.e0, start1.about1, start1.theMethod, start1.args0, start1.below0, start1.atStart⟩
end Jvm.Pilot.@@N@@
