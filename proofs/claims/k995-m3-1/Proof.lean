import JvmDerived
import JvmDerived.Pilot.@@N@@Statement
import JvmDerived.Pilot.@@N@@Code
set_option linter.unusedVariables false
set_option linter.unusedSimpArgs false
namespace Jvm.Pilot.@@N@@
open Jvm Jvm.ClassFile Sem Op Lib Jvm.Free Jvm.Stand Jvm.LawKit Jvm.RoadKit Bundle Jvm.Pilot.@@N@@.Jvm.D
/-! own_Done: from frame F on top of T the run comes to its end, and R holds there -/
def own_Done (tb : Tables) (e : Env) (below : List Frame) (R : Outcome → State → Prop) (T : State) (F : JFrame) : Prop :=
  ∃ s₂ o, Steps tb e below (T.setTop F) s₂ ∧ s₂.status = .running ∧ Ended s₂ below o ∧ R o s₂
def own_R (Qq : Option Value → Heap → List Loc → Prop) (s : State) (C S : Nat) : Outcome → State → Prop :=
  fun o U => ∃ v L, o = .returned v ∧ Qq v U.heap L ∧ FrameEnd s o U L C S
def own_RW (Qq : Option Value → Heap → List Loc → Prop) (s : State) (C S : Nat) : Outcome → State → Prop :=
  fun o U => ∃ v L, o = .returned v ∧ Qq v U.heap L ∧ ReturnedEndW s o U L C S
theorem own_st {tb : Tables} {e : Env} {below : List Frame} {R : Outcome → State → Prop} {T T' : State} {F F' : JFrame} (k : ∀ t, Steps tb e below (T'.setTop F') t → Steps tb e below (T.setTop F) t) (d : own_Done tb e below R T' F') : own_Done tb e below R T F := by
  obtain ⟨a, o, h1, h2⟩ := d
  exact ⟨a, o, k a h1, h2⟩
theorem own_tr {tb : Tables} {e : Env} {below : List Frame} {R : Outcome → State → Prop} {T T' : State} {F F' : JFrame} (k : Steps tb e below (T.setTop F) (T'.setTop F')) (d : own_Done tb e below R T' F') : own_Done tb e below R T F := by
  obtain ⟨a, o, h1, h2⟩ := d
  exact ⟨a, o, k.trans h1, h2⟩
section Own
variable {p : Program} {l : Launch} {e : Env} {Rm : Room} {s : State} {m : MethodId} {args : Array Value} {below : List Frame} {meth : Method} {c : Code} {T : State} {locs : List Loc} {cells slots : Nat}
theorem own_ret (X : Stand p l e Rm s m args below meth c T locs cells slots) (hx : p.tables.exec = Jvm.exec) {pc : Nat} {Ls : Array Slot} {w : Value} {t : FieldType} {i : Instr} {rest : List Value} (hret : meth.sig.returnType = some t) (hn : narrow t w = w)
    (hi : (i = .ireturn ∧ (t = .int ∨ t = .boolean ∨ t = .byte ∨ t = .char ∨ t = .short) ∧ ∃ z, w = .int z) ∨ (i = .lreturn ∧ t = .long ∧ ∃ z, w = .long z) ∨ (i = .dreturn ∧ t = .double ∧ ∃ z, w = .double z) ∨ (i = .freturn ∧ t = .float ∧ ∃ z, w = .float z) ∨ (i = .areturn ∧ t.isReference = true ∧ w.isRef = true))
    (hd : decode c.code pc = .ok (i, 1)) (hlk : meth.locks = false) {Qq : Option Value → Heap → List Loc → Prop} {C S : Nat} (hQ : Qq (some w) T.heap locs) (hc : cells ≤ C) (hs : slots ≤ S) :
    own_Done p.tables e below (own_R Qq s C S) T (mkF m pc Ls (w :: rest)) := by
  obtain ⟨fs, hr, hrun, hended, hW, hsame⟩ := X.leave (v := some w) (fun h => by rw [hret] at h; cases h) hlk
  exact ⟨_, _, retOut X hx hret hn hi hd hr, hrun, hended, _, _, rfl, hQ, ⟨_, rfl⟩, hW, hsame.mono hc hs⟩
theorem own_retI (X : Stand p l e Rm s m args below meth c T locs cells slots) (hx : p.tables.exec = Jvm.exec) {pc : Nat} {Ls : Array Slot} {z : Int32} {rest : List Value} (hret : meth.sig.returnType = some .int) (hd : decode c.code pc = .ok (.ireturn, 1)) (hlk : meth.locks = false)
    {Qq : Option Value → Heap → List Loc → Prop} {C S : Nat} (hQ : Qq (some (.int z)) T.heap locs) (hc : cells ≤ C) (hs : slots ≤ S) : own_Done p.tables e below (own_R Qq s C S) T (mkF m pc Ls (.int z :: rest)) :=
  own_ret X hx hret rfl (Or.inl ⟨rfl, Or.inl rfl, _, rfl⟩) hd hlk hQ hc hs
theorem own_retN (X : Stand p l e Rm s m args below meth c T locs cells slots) (hx : p.tables.exec = Jvm.exec) {pc : Nat} {Ls : Array Slot} {z : Int32} {t : FieldType} {rest : List Value} (hret : meth.sig.returnType = some t) (ht : t = .boolean ∨ t = .byte ∨ t = .char ∨ t = .short) (hn : narrow t (.int z) = .int z) (hd : decode c.code pc = .ok (.ireturn, 1)) (hlk : meth.locks = false)
    {Qq : Option Value → Heap → List Loc → Prop} {C S : Nat} (hQ : Qq (some (.int z)) T.heap locs) (hc : cells ≤ C) (hs : slots ≤ S) : own_Done p.tables e below (own_R Qq s C S) T (mkF m pc Ls (.int z :: rest)) :=
  own_ret X hx hret hn (Or.inl ⟨rfl, Or.inr ht, _, rfl⟩) hd hlk hQ hc hs
theorem own_retJ (X : Stand p l e Rm s m args below meth c T locs cells slots) (hx : p.tables.exec = Jvm.exec) {pc : Nat} {Ls : Array Slot} {z : Int64} {rest : List Value} (hret : meth.sig.returnType = some .long) (hd : decode c.code pc = .ok (.lreturn, 1)) (hlk : meth.locks = false)
    {Qq : Option Value → Heap → List Loc → Prop} {C S : Nat} (hQ : Qq (some (.long z)) T.heap locs) (hc : cells ≤ C) (hs : slots ≤ S) : own_Done p.tables e below (own_R Qq s C S) T (mkF m pc Ls (.long z :: rest)) :=
  own_ret X hx hret rfl (Or.inr (Or.inl ⟨rfl, rfl, _, rfl⟩)) hd hlk hQ hc hs
theorem own_narrow {t : FieldType} {v : Value} (h : v.isRef = true) : narrow t v = v := by
  rcases ref_cases h with rfl | ⟨a, rfl⟩ <;> cases t <;> rfl
theorem own_retA (X : Stand p l e Rm s m args below meth c T locs cells slots) (hx : p.tables.exec = Jvm.exec) {pc : Nat} {Ls : Array Slot} {w : Value} {t : FieldType} {rest : List Value} (hret : meth.sig.returnType = some t) (ht : t.isReference = true) (hw : w.isRef = true) (hd : decode c.code pc = .ok (.areturn, 1)) (hlk : meth.locks = false)
    {Qq : Option Value → Heap → List Loc → Prop} {C S : Nat} (hQ : Qq (some w) T.heap locs) (hc : cells ≤ C) (hs : slots ≤ S) : own_Done p.tables e below (own_R Qq s C S) T (mkF m pc Ls (w :: rest)) :=
  own_ret X hx hret (own_narrow hw) (Or.inr (Or.inr (Or.inr (Or.inr ⟨rfl, ht, hw⟩)))) hd hlk hQ hc hs
theorem own_retV (X : Stand p l e Rm s m args below meth c T locs cells slots) (hx : p.tables.exec = Jvm.exec) {pc : Nat} {Ls : Array Slot} (hret : meth.sig.returnType = none) (hd : decode c.code pc = .ok (.return_, 1)) (hlk : meth.locks = false)
    {Qq : Option Value → Heap → List Loc → Prop} {C S : Nat} (hQ : Qq none T.heap locs) (hc : cells ≤ C) (hs : slots ≤ S) : own_Done p.tables e below (own_R Qq s C S) T (mkF m pc Ls []) := by
  obtain ⟨fs, hr, hrun, hended, hW, hsame⟩ := X.leave (v := none) (fun _ => rfl) hlk
  exact ⟨_, _, X.returnOut hx hret hd hr, hrun, hended, _, _, rfl, hQ, ⟨_, rfl⟩, hW, hsame.mono hc hs⟩
theorem own_retW {vm₁ : Vm} (X : Stand p l e Rm (s.setVm vm₁) m args below meth c T locs cells slots) (hx : p.tables.exec = Jvm.exec) {pc : Nat} {Ls : Array Slot} {w : Value} {t : FieldType} {i : Instr} {rest : List Value} (hret : meth.sig.returnType = some t) (hn : narrow t w = w)
    (hi : (i = .ireturn ∧ (t = .int ∨ t = .boolean ∨ t = .byte ∨ t = .char ∨ t = .short) ∧ ∃ z, w = .int z) ∨ (i = .lreturn ∧ t = .long ∧ ∃ z, w = .long z) ∨ (i = .dreturn ∧ t = .double ∧ ∃ z, w = .double z) ∨ (i = .freturn ∧ t = .float ∧ ∃ z, w = .float z) ∨ (i = .areturn ∧ t.isReference = true ∧ w.isRef = true))
    {ks : Nat} (hS : s.Since vm₁ ks) (hk : ks ≤ T.heap.size) (hd : decode c.code pc = .ok (i, 1)) (hlk : meth.locks = false) {Qq : Option Value → Heap → List Loc → Prop} {C S : Nat} (hQ : Qq (some w) T.heap locs) (hc : cells ≤ C) (hs : slots ≤ S) :
    own_Done p.tables e below (own_RW Qq s C S) T (mkF m pc Ls (w :: rest)) := by
  obtain ⟨fs, hr, hrun, hended, hW⟩ := X.leaveW hS hk (v := some w) (fun h => by rw [hret] at h; cases h) hlk
  exact ⟨_, _, retOut X hx hret hn hi hd hr, hrun, hended, _, _, rfl, hQ, hW.1, hW.2.1, hW.2.2.1, hW.2.2.2.mono hc hs⟩
theorem own_retIW {vm₁ : Vm} (X : Stand p l e Rm (s.setVm vm₁) m args below meth c T locs cells slots) (hx : p.tables.exec = Jvm.exec) {pc : Nat} {Ls : Array Slot} {z : Int32} {rest : List Value} (hret : meth.sig.returnType = some .int) {ks : Nat} (hS : s.Since vm₁ ks) (hk : ks ≤ T.heap.size) (hd : decode c.code pc = .ok (.ireturn, 1)) (hlk : meth.locks = false)
    {Qq : Option Value → Heap → List Loc → Prop} {C S : Nat} (hQ : Qq (some (.int z)) T.heap locs) (hc : cells ≤ C) (hs : slots ≤ S) : own_Done p.tables e below (own_RW Qq s C S) T (mkF m pc Ls (.int z :: rest)) :=
  own_retW X hx hret rfl (Or.inl ⟨rfl, Or.inl rfl, _, rfl⟩) hS hk hd hlk hQ hc hs
theorem own_retNW {vm₁ : Vm} (X : Stand p l e Rm (s.setVm vm₁) m args below meth c T locs cells slots) (hx : p.tables.exec = Jvm.exec) {pc : Nat} {Ls : Array Slot} {z : Int32} {t : FieldType} {rest : List Value} (hret : meth.sig.returnType = some t) (ht : t = .boolean ∨ t = .byte ∨ t = .char ∨ t = .short) (hn : narrow t (.int z) = .int z) {ks : Nat} (hS : s.Since vm₁ ks) (hk : ks ≤ T.heap.size) (hd : decode c.code pc = .ok (.ireturn, 1)) (hlk : meth.locks = false)
    {Qq : Option Value → Heap → List Loc → Prop} {C S : Nat} (hQ : Qq (some (.int z)) T.heap locs) (hc : cells ≤ C) (hs : slots ≤ S) : own_Done p.tables e below (own_RW Qq s C S) T (mkF m pc Ls (.int z :: rest)) :=
  own_retW X hx hret hn (Or.inl ⟨rfl, Or.inr ht, _, rfl⟩) hS hk hd hlk hQ hc hs
theorem own_retJW {vm₁ : Vm} (X : Stand p l e Rm (s.setVm vm₁) m args below meth c T locs cells slots) (hx : p.tables.exec = Jvm.exec) {pc : Nat} {Ls : Array Slot} {z : Int64} {rest : List Value} (hret : meth.sig.returnType = some .long) {ks : Nat} (hS : s.Since vm₁ ks) (hk : ks ≤ T.heap.size) (hd : decode c.code pc = .ok (.lreturn, 1)) (hlk : meth.locks = false)
    {Qq : Option Value → Heap → List Loc → Prop} {C S : Nat} (hQ : Qq (some (.long z)) T.heap locs) (hc : cells ≤ C) (hs : slots ≤ S) : own_Done p.tables e below (own_RW Qq s C S) T (mkF m pc Ls (.long z :: rest)) :=
  own_retW X hx hret rfl (Or.inr (Or.inl ⟨rfl, rfl, _, rfl⟩)) hS hk hd hlk hQ hc hs
theorem own_mono (X : Stand p l e Rm s m args below meth c T locs cells slots) {C S : Nat} (hc : cells ≤ C) (hs : slots ≤ S) : Stand p l e Rm s m args below meth c T locs C S :=
  { X with same := X.same.mono hc hs }
end Own
theorem own_cat1 {v : Value} (h : v.isRef = true) : v.category = 1 := by rcases ref_cases h with rfl | ⟨a, rfl⟩ <;> rfl
theorem own_fits {t : FieldType} {v : Value} (ht : t.isReference = true) (h : v.isRef = true) : fits t v = true := by rcases ref_cases h with rfl | ⟨a, rfl⟩ <;> cases t <;> first | rfl | cases ht
theorem own_nb {z : Int32} (h : z = 0 ∨ z = 1) : narrow .boolean (.int z) = .int z := by rcases h with rfl | rfl <;> rfl
theorem own_fb {z : Int32} (h : z = 0 ∨ z = 1) : fits .boolean (.int z) = true := by rcases h with rfl | rfl <;> rfl
theorem own_ext_refl (h : Heap) : Ext h h := ⟨Nat.le_refl _, fun _ _ q => q⟩
theorem own_ext_trans {h h' h2 : Heap} (A : Ext h h') (B : Ext h' h2) : Ext h h2 := ⟨Nat.le_trans A.1 B.1, fun a c q => B.2 a c (A.2 a c q)⟩
theorem own_O_wr {Z : State} {h h' : Heap} {a : Addr} {sl : Nat} {v : Value} (A : Ext Z.heap h) (B : Wr h h' a sl v) (q : Z.heap.size ≤ a) : Ext Z.heap h' := (Old.wr (⟨rfl, A⟩ : Old Z Z.heap.size h) B q).2
theorem own_O_keep {Z : State} {h h' : Heap} {ws : List Addr} (A : Ext Z.heap h) (B : Keep h h' ws) (q : ∀ a ∈ ws, Z.heap.size ≤ a) : Ext Z.heap h' := (Old.keep (⟨rfl, A⟩ : Old Z Z.heap.size h) B q).2
theorem own_eq_int {args : Array Value} {s : State} {t : Term} {k : Int32} (h : (Jvm.Cond.eq t (Term.int k)).value args s none s [] = some true) : t.eval args s none [] s = some (.int k) := by
  obtain ⟨u, v, h1, h2, h3, h4⟩ := cmp_v (Or.inl h)
  have h5 : v = .int k := (Option.some.inj h2).symm
  subst h5
  obtain ⟨z, rfl⟩ := h4
  rw [h1]
  simp only [Jvm.Cond.value, h1, h2, Option.some.injEq, decide_eq_true_eq] at h
  rw [h]
theorem own_fld_int {args : Array Value} {s : State} {t : Term} {C n d : String} {a : Addr} {k : Int32} (ht : t.eval args s none [] s = some (.ref a)) (h : (Jvm.Cond.eq (Term.field t C n d) (Term.int k)).value args s none s [] = some true) : s.fieldOf? a C n d = some (.int k) :=
  (fld_at ht).symm.trans (own_eq_int h)
theorem own_eq_ref {args : Array Value} {s : State} {t u : Term} {a : Addr} (h : (Jvm.Cond.eq t u).value args s none s [] = some true) (hu : u.eval args s none [] s = some (.ref a)) : t.eval args s none [] s = some (.ref a) := by
  obtain ⟨x1, y1, h1, h2, h3, h4⟩ := cmp_v (Or.inl h)
  obtain rfl : y1 = .ref a := Option.some.inj (h2.symm.trans hu)
  have hr : x1.isRef = true := by cases x1 <;> first | rfl | (simp [Kin] at h3; done) | exact h3.1
  have e := gotT (eq_R h1 h2 hr rfl) h
  rw [h1, e]
theorem own_len {args : Array Value} {s : State} {t : Term} {a : Addr} {cl : Cell} {n : Int32} (h : (Term.length t).eval args s none [] s = some (.int n)) (ht : t.eval args s none [] s = some (.ref a)) (hc : s.heap[a]? = some cl) : cl.slots.size < 2 ^ 31 ∧ cl.slots.size.toInt32 = n := by
  obtain ⟨a', cell, e1, e2, e3⟩ := Term.length_spec h
  cases ht.symm.trans e1
  cases hc.symm.trans (State.arrayAt?_spec e2).1
  by_cases q : cl.slots.size < 2 ^ 31
  · exact ⟨q, (Value.int.inj e3).symm⟩
  · simp [Term.eval, ht, e2, q] at h
theorem own_initFor {args : Array Value} {s : State} {C n d : String} (h1 : (Jvm.Cond.initializedFor C n d).before args s = true) (h2 : (Jvm.Cond.laysStatic C n d).before args s = true) : (Jvm.Cond.initialized C).before args s = true := by
  obtain ⟨c, k, i, f, a, cell, q1, q2, -⟩ := Cond.laysStatic_spec h2
  have q3 := Cond.initializedFor_spec q2 h1
  have q4 := State.fieldFound?_class q2
  simp [Cond.before, Cond.holds, Cond.value, q1, q4, q3]
theorem own_ns_root {Z : State} {a0 : Array Value} {Ob K : String} {n : Nat} (w : (Jvm.Cond.noSuperclass Ob).before a0 Z = true) (wk : (Jvm.Cond.instantiable K n).before a0 Z = true) (hn : Ob ≠ K) : NS Z Ob K := by
  obtain ⟨c, k, h1, h2, h3, -, -⟩ := Cond.noSuperclass_spec w
  obtain ⟨t, k2, g1, -⟩ := Cond.instantiable_spec wk
  have ne := ids_ne h1 g1 hn
  refine ⟨c, t, h1, g1, fun fuel => ?_⟩
  cases fuel with
  | zero => rfl
  | succ f => simp [Vm.isSubclassAux, ne, h2, h3]
theorem own_ns_no {Z : State} {a0 : Array Value} {C Sp K : String} {n : Nat} (w : (Jvm.Cond.superclass C Sp).before a0 Z = true) (wk : (Jvm.Cond.instantiable K n).before a0 Z = true) (ns : NS Z C K) (hn : C ≠ K) : ∃ c t, Z.vm.findClass C = some c ∧ Z.vm.findClass K = some t ∧ Z.vm.assignable c t = false := by
  obtain ⟨c, t, h0, g0, n3⟩ := ns
  obtain ⟨p, k, kp, h1, h2, h3, h4, h5, -, h7⟩ := Cond.superclass_spec h0 w
  obtain ⟨t', k', g1, g2, g3, g4, -⟩ := Cond.instantiable_spec wk
  cases g0.symm.trans g1
  have g5 : k'.isInterface = false := by
    simp only [Bool.or_eq_false_iff] at g4
    exact g4.1
  have ne := ids_ne h0 g0 hn
  refine ⟨c, t, h0, g0, ?_⟩
  show Z.vm.assignableAux (255 + 1) c t = false
  simp [Vm.assignableAux, ne, h2, g2, h5, g3, g5, Vm.isSubclass, n3]
theorem own_ext_keep {h h' : Heap} (K : Keep h h' []) : Ext h h' := ⟨K.1, fun a c q => K.2.1 a c q (fun z => nomatch z)⟩
theorem own_sub_at {args : Array Value} {first s : State} {o : Option Outcome} {idx : List Nat} {t u : Term} {v w : Int32} (ha : t.eval args first o idx s = some (.int v)) (hb : u.eval args first o idx s = some (.int w)) : (Term.sub t u).eval args first o idx s = some (.int (v - w)) := by simp [Term.eval, ha, hb]
def own_Bx (Z : State) (h : Heap) (w : Value) (b q : Int32) : Prop := (w = .null ∧ b = 1) ∨ (b = 0 ∧ ∃ r : Addr, w = .ref r ∧ Exa Z h r "java/lang/Integer" ∧ Fld Z h r "java/lang/Integer" "value" "I" (.int q))
theorem own_Bx.ext {Z : State} {h h' : Heap} {w : Value} {b q : Int32} (B : own_Bx Z h w b q) (E : Ext h h') : own_Bx Z h' w b q := by
  rcases B with B | ⟨e, r, rfl, X, F⟩
  · exact Or.inl B
  · exact Or.inr ⟨e, r, rfl, X.ext E, F.ext E⟩
theorem own_Bx.keep {Z : State} {h h' : Heap} {w : Value} {b q : Int32} {a : Addr} {C : String} (B : own_Bx Z h w b q) (K : Keep h h' [a]) (X' : Exa Z h a C) (hn : "java/lang/Integer" ≠ C) : own_Bx Z h' w b q := by
  rcases B with B | ⟨e, r, rfl, X, F⟩
  · exact Or.inl B
  · exact Or.inr ⟨e, r, rfl, X.keep K, F.keep K (ninS (ne_exa X X' hn) nin0)⟩
theorem own_Bx.isRef {Z : State} {h : Heap} {w : Value} {b q : Int32} (B : own_Bx Z h w b q) : w.isRef = true := by
  rcases B with ⟨rfl, -⟩ | ⟨-, r, rfl, -, -⟩ <;> rfl
def own_eqv (b1 x1 b2 x2 : Int32) : Int32 := if b1 = 0 then (if b2 = 0 then (if x1 = x2 then 1 else 0) else 0) else (if b2 = 0 then 0 else 1)
theorem own_eqv_self (b z : Int32) : own_eqv b z b z = 1 := by
  unfold own_eqv
  by_cases h : b = 0 <;> simp [h]
theorem own_fld_uniq {Z : State} {h : Heap} {a : Addr} {C n d : String} {v w : Value} (F : Fld Z h a C n d v) (G : Fld Z h a C n d w) : v = w := by
  by_cases q : v = w
  · exact q
  · exact absurd rfl (F.ne G q)
theorem own_selects_private {args : Array Value} {s : State} {y : MethodName} {n : Nat} (hinst : (Jvm.Cond.instanceMethod y).before args s = true) (hpriv : (Jvm.Cond.privateMethod y).before args s = true) (hi : (Jvm.Cond.instantiable y.cls n).before args s = true) (hy : y.cls ≠ "java/lang/invoke/MethodHandle" ∧ y.cls ≠ "java/lang/invoke/VarHandle") : (Jvm.Cond.selects y.cls y y).before args s = true := by
  obtain ⟨mk, methM, hnamed, hmethM, hstM, habM⟩ := Cond.instanceMethod_spec hinst
  have hc := findClass_of_methodNamed hnamed
  obtain ⟨c, k, g1, g2, g3, g4, -⟩ := Cond.instantiable_spec hi
  cases hc.symm.trans g1
  have hf := State.methodFound?_of_named hnamed hy
  have hs : selectMethod {} s.vm mk.cls mk = .method mk := selectMethod_private hmethM (Cond.privateMethod_at hpriv mk methM hnamed hmethM)
  have g5 : k.isInterface = false := by
    simp only [Bool.or_eq_false_iff] at g4
    exact g4.1
  simp [Cond.before, Cond.holds, Cond.value, hc, hf, hnamed, hs, g2, g5]
def Ctx (Z : State) (a0 : Array Value) (w_ASCENDING : Addr) (w_LAST : Addr) (w_DESCENDING : Addr) (w_FIRST : Addr) (w_map : Addr) (cl_map : Cell) : Prop := (∀ d ∈ tables_1, d.before a0 Z = true) ∧ Sta Z Z.heap "com/example/turnleaf/turnleaf/page/Direction" "ASCENDING" "Lcom/example/turnleaf/turnleaf/page/Direction;" (.ref w_ASCENDING) ∧ Exa Z Z.heap w_ASCENDING "com/example/turnleaf/turnleaf/page/Direction" ∧ Sta Z Z.heap "com/example/turnleaf/turnleaf/page/Nulls" "LAST" "Lcom/example/turnleaf/turnleaf/page/Nulls;" (.ref w_LAST) ∧ Exa Z Z.heap w_LAST "com/example/turnleaf/turnleaf/page/Nulls" ∧ Sta Z Z.heap "com/example/turnleaf/turnleaf/page/Direction" "DESCENDING" "Lcom/example/turnleaf/turnleaf/page/Direction;" (.ref w_DESCENDING) ∧ Exa Z Z.heap w_DESCENDING "com/example/turnleaf/turnleaf/page/Direction" ∧ Sta Z Z.heap "com/example/turnleaf/turnleaf/page/Nulls" "FIRST" "Lcom/example/turnleaf/turnleaf/page/Nulls;" (.ref w_FIRST) ∧ Exa Z Z.heap w_FIRST "com/example/turnleaf/turnleaf/page/Nulls" ∧ Fld Z Z.heap w_ASCENDING "java/lang/Enum" "ordinal" "I" (.int (0 : Int32)) ∧ Fld Z Z.heap w_DESCENDING "java/lang/Enum" "ordinal" "I" (.int (1 : Int32)) ∧ Fld Z Z.heap w_FIRST "java/lang/Enum" "ordinal" "I" (.int (0 : Int32)) ∧ Fld Z Z.heap w_LAST "java/lang/Enum" "ordinal" "I" (.int (1 : Int32)) ∧ Sta Z Z.heap "com/example/turnleaf/turnleaf/page/Nulls$1" "$SwitchMap$com$example$turnleaf$turnleaf$page$Direction" "[I" (.ref w_map) ∧ Arr Z Z.heap w_map cl_map .int ∧ (¬ ((0 : Int32) < 0 ∨ cl_map.slots.size ≤ (0 : Int32).toNatClampNeg) ∧ cl_map.slots[(0 : Int32).toNatClampNeg]? = some (.int (1 : Int32))) ∧ (¬ ((1 : Int32) < 0 ∨ cl_map.slots.size ≤ (1 : Int32).toNatClampNeg) ∧ cl_map.slots[(1 : Int32).toNatClampNeg]? = some (.int (2 : Int32))) ∧ True
def Q0 (Z : State) (v : Option Value) (h : Heap) (L : List Loc) : Prop := v = some (.int (1 : Int32)) ∧ Fr Z.heap.size L
def Q1 (Z : State) (r : Value) (h0 : Heap) (v : Option Value) (h : Heap) (L : List Loc) : Prop := v = some r ∧ Fr Z.heap.size L ∧ h = h0
theorem d2_0 : decode jdk_37_method_2_code 0 = .ok (.aload_n 0, 1) := by decide +kernel
theorem d2_1 : decode jdk_37_method_2_code 1 = .ok (.getfield 7, 3) := by decide +kernel
theorem d2_4 : decode jdk_37_method_2_code 4 = .ok (.ireturn, 1) := by decide +kernel
theorem pn_0 : plainName "java/lang/Enum" = true := by first | (simp [plainName, overriddenIn]; done) | decide +kernel
set_option maxRecDepth 65536 in
set_option maxHeartbeats 40000000 in
theorem rm2 (l : Launch) (Z : State) (a0 : Array Value) {w_ASCENDING : Addr} {w_LAST : Addr} {w_DESCENDING : Addr} {w_FIRST : Addr} {w_map : Addr} {cl_map : Cell} (CX : Ctx Z a0 w_ASCENDING w_LAST w_DESCENDING w_FIRST w_map cl_map) (ws : List Jvm.Cond) (a1 : Addr) (r : Int32) (h0 : Heap) (O : Ext Z.heap h0) (F1 : Fld Z h0 a1 "java/lang/Enum" "ordinal" "I" (.int r)) :
    MetFree l (⟨"java/lang/Enum", "ordinal", "()I"⟩ : MethodName) (head1 (Jvm.Cond.code (⟨"java/lang/Enum", "ordinal", "()I"⟩ : MethodName) jdk_37_method_2_code 1 (some .int) :: ws) ({ frames := 0, cells := 0, slots := 0, locals := 0 } : Room)) (fun a U => a = #[(.ref a1)] ∧ Z.Warmed39 U.vm ∧ U.heap = h0) (fun _ _ _ _ _ => True) (fun _ U o U' => ∃ v L, o = .returned v ∧ Q1 Z (.int r) h0 v U'.heap L ∧ FrameEnd U o U' L ({ frames := 0, cells := 0, slots := 0, locals := 0 } : Room).cells ({ frames := 0, cells := 0, slots := 0, locals := 0 } : Room).slots) := by
  refine MetFree.of_bodySF (plainFor_of_name pn_0) hisR ?_
  intro p e s m args below meth c s₁ Bd hml0 hP hK
  obtain ⟨rfl, hZ, hh⟩ := hP
  have CX0 := CX
  obtain ⟨hw, S_ASCENDING, E_ASCENDING, S_LAST, E_LAST, S_DESCENDING, E_DESCENDING, S_FIRST, E_FIRST, O_ASCENDING, O_DESCENDING, O_FIRST, O_LAST, S_map, A_map, M0, M1, -⟩ := CX0
  have hx := Bd.exec
  have hby := Bd.bytes
  have hml : c.maxLocals = 1 := hml0
  have hown : s.vm.findClass "java/lang/Enum" = some m.cls := findClass_of_methodNamed Bd.named
  have hnm := (name_of_methodNamed Bd.named Bd.method).1
  have hlk : meth.locks = false := BodyLoose.notSynchronized Bd
  have X0 : Stand p l e ({ frames := 0, cells := 0, slots := 0, locals := 0 } : Room) s m #[(.ref a1)] below meth c s₁ [] 0 0 := Stand.of_body Bd
  have e0 : s₁.heap = h0 := by rw [← hh, Bd.state]; rfl
  have N := Fr.nil Z.heap.size
  show own_Done p.tables e below (own_R (Q1 Z (.int r) h0) s 0 0) s₁ (entryFrame m #[(.ref a1)] 1)
  refine own_st (T' := s₁) (F' := (mkF m 0 #[.val (.ref a1)] [])) (fun t k => castTop (by first | rfl | (simp [entryFrame, mkF, argsToLocals, Value.category]; done)) k) ?_
  refine own_st (T' := s₁) (F' := (mkF m 1 #[.val (.ref a1)] [(.ref a1)])) (fun t k => XS.aloadN X0.here hx rfl (hb hby d2_0) rfl rfl k) ?_
  obtain ⟨T1, X1, e1, st1⟩ := getF X0 hx hZ hown (host := "") (Or.inl (hw _ (List.mem_of_getElem? (i := 17) rfl))) Via.refl e0 F1 (g := (mkF m 1 #[.val (.ref a1)] [(.ref a1)])) rfl rfl (hb hby d2_1)
  refine own_st (T' := T1) (F' := (mkF m 4 #[.val (.ref a1)] [(.int r)])) st1 ?_
  exact own_retI X1 hx Bd.returns (hb hby d2_4) hlk (by show Q1 Z (.int r) h0 _ T1.heap _; rw [e1]; exact ⟨rfl, N, rfl⟩) (by decide) (by decide)
theorem d1_0 : decode prog_13_method_4_code 0 = .ok (.getstatic 29, 3) := by decide +kernel
theorem d1_3 : decode prog_13_method_4_code 3 = .ok (.aload_n 0, 1) := by decide +kernel
theorem d1_4 : decode prog_13_method_4_code 4 = .ok (.invokevirtual 35, 3) := by decide +kernel
theorem d1_7 : decode prog_13_method_4_code 7 = .ok (.iaload, 1) := by decide +kernel
theorem d1_8 : decode prog_13_method_4_code 8 = .ok (.lookupswitch 28 #[(1, 38), (2, 44)], 28) := by decide +kernel
theorem d1_36 : decode prog_13_method_4_code 36 = .ok (.new 41, 3) := by decide +kernel
theorem d1_39 : decode prog_13_method_4_code 39 = .ok (.dup, 1) := by decide +kernel
theorem d1_40 : decode prog_13_method_4_code 40 = .ok (.aconst_null, 1) := by decide +kernel
theorem d1_41 : decode prog_13_method_4_code 41 = .ok (.aconst_null, 1) := by decide +kernel
theorem d1_42 : decode prog_13_method_4_code 42 = .ok (.invokespecial 43, 3) := by decide +kernel
theorem d1_45 : decode prog_13_method_4_code 45 = .ok (.athrow, 1) := by decide +kernel
theorem d1_46 : decode prog_13_method_4_code 46 = .ok (.getstatic 7, 3) := by decide +kernel
theorem d1_49 : decode prog_13_method_4_code 49 = .ok (.goto 6, 3) := by decide +kernel
theorem d1_52 : decode prog_13_method_4_code 52 = .ok (.getstatic 3, 3) := by decide +kernel
theorem d1_55 : decode prog_13_method_4_code 55 = .ok (.areturn, 1) := by decide +kernel
theorem pn_1 : plainName "com/example/turnleaf/turnleaf/page/Nulls" = true := by first | (simp [plainName, overriddenIn]; done) | decide +kernel
theorem pd_0 : parseMethodDescriptor "()I" = some ⟨[], some .int⟩ := by decide +kernel
set_option maxRecDepth 65536 in
set_option maxHeartbeats 40000000 in
theorem rm1_ASCENDING (l : Launch) (Z : State) (a0 : Array Value) {w_ASCENDING : Addr} {w_LAST : Addr} {w_DESCENDING : Addr} {w_FIRST : Addr} {w_map : Addr} {cl_map : Cell} (CX : Ctx Z a0 w_ASCENDING w_LAST w_DESCENDING w_FIRST w_map cl_map) (ws : List Jvm.Cond)  (h0 : Heap) (O : Ext Z.heap h0)  :
    MetFree l (⟨"com/example/turnleaf/turnleaf/page/Nulls", "largestIn", "(Lcom/example/turnleaf/turnleaf/page/Direction;)Lcom/example/turnleaf/turnleaf/page/Nulls;"⟩ : MethodName) (head1 (Jvm.Cond.code (⟨"com/example/turnleaf/turnleaf/page/Nulls", "largestIn", "(Lcom/example/turnleaf/turnleaf/page/Direction;)Lcom/example/turnleaf/turnleaf/page/Nulls;"⟩ : MethodName) prog_13_method_4_code 1 (some (.object "com/example/turnleaf/turnleaf/page/Nulls")) :: ws) ({ frames := 1, cells := 0, slots := 0, locals := 13 } : Room)) (fun a U => a = #[(.ref w_ASCENDING)] ∧ Z.Warmed39 U.vm ∧ U.heap = h0) (fun _ _ _ _ _ => True) (fun _ U o U' => ∃ v L, o = .returned v ∧ Q1 Z (.ref w_LAST) h0 v U'.heap L ∧ FrameEnd U o U' L ({ frames := 1, cells := 0, slots := 0, locals := 13 } : Room).cells ({ frames := 1, cells := 0, slots := 0, locals := 13 } : Room).slots) := by
  refine MetFree.of_bodySF (plainFor_of_name pn_1) hisR ?_
  intro p e s m args below meth c s₁ Bd hml0 hP hK
  obtain ⟨rfl, hZ, hh⟩ := hP
  have CX0 := CX
  obtain ⟨hw, S_ASCENDING, E_ASCENDING, S_LAST, E_LAST, S_DESCENDING, E_DESCENDING, S_FIRST, E_FIRST, O_ASCENDING, O_DESCENDING, O_FIRST, O_LAST, S_map, A_map, M0, M1, -⟩ := CX0
  have hx := Bd.exec
  have hby := Bd.bytes
  have hml : c.maxLocals = 1 := hml0
  have hown : s.vm.findClass "com/example/turnleaf/turnleaf/page/Nulls" = some m.cls := findClass_of_methodNamed Bd.named
  have hnm := (name_of_methodNamed Bd.named Bd.method).1
  have hlk : meth.locks = false := BodyLoose.notSynchronized Bd
  have X0 : Stand p l e ({ frames := 1, cells := 0, slots := 0, locals := 13 } : Room) s m #[(.ref w_ASCENDING)] below meth c s₁ [] 0 0 := Stand.of_body Bd
  have e0 : s₁.heap = h0 := by rw [← hh, Bd.state]; rfl
  have N := Fr.nil Z.heap.size
  show own_Done p.tables e below (own_R (Q1 Z (.ref w_LAST) h0) s 0 0) s₁ (entryFrame m #[(.ref w_ASCENDING)] 1)
  refine own_st (T' := s₁) (F' := (mkF m 0 #[.val (.ref w_ASCENDING)] [])) (fun t k => castTop (by first | rfl | (simp [entryFrame, mkF, argsToLocals, Value.category]; done)) k) ?_
  obtain ⟨T1, X1, e1, st1⟩ := getS2 X0 hx hZ hown (host := "") (Or.inl (hw _ (List.mem_of_getElem? (i := 7) rfl))) Via.refl e0 (S_map.ext O) (g := (mkF m 0 #[.val (.ref w_ASCENDING)] [])) rfl (hb hby d1_0)
  refine own_st (T' := T1) (F' := (mkF m 3 #[.val (.ref w_ASCENDING)] [(.ref w_map)])) st1 ?_
  refine own_st (T' := T1) (F' := (mkF m 4 #[.val (.ref w_ASCENDING)] [(.ref w_ASCENDING), (.ref w_map)])) (fun t k => XS.aloadN X1.here hx rfl (hb hby d1_3) rfl rfl k) ?_
  obtain ⟨cq2, kq2, q2a, q2b, q2c⟩ := isOf hZ e1 (E_ASCENDING.ext O)
  obtain ⟨v2, _, ⟨T2, L2, k2, n2⟩, -, X2, ⟨Lc2, hQ2, l2, y2, z2⟩, st2⟩ := X1.virtualBackUp hx (x := (⟨"com/example/turnleaf/turnleaf/page/Direction", "ordinal", "()I"⟩ : MethodName)) (y := (⟨"java/lang/Enum", "ordinal", "()I"⟩ : MethodName)) hown (mvT hZ (hw _ (List.mem_of_getElem? (i := 10) rfl))) (mvT hZ (hw _ (List.mem_of_getElem? (i := 11) rfl))) (mvT hZ (hw _ (List.mem_of_getElem? (i := 12) rfl))) (by decide) (mvT hZ (hw _ (List.mem_of_getElem? (i := 14) rfl))) (mvT hZ (hw _ (List.mem_of_getElem? (i := 13) rfl))) (backOf (W := 1) (rm2 l Z a0 CX [] w_ASCENDING (0 : Int32) h0 O (O_ASCENDING.ext O)) hZ (hw _ (List.mem_of_getElem? (i := 16) rfl)) (hw _ (List.mem_of_getElem? (i := 15) rfl)) (by decide) (by decide)) q2a q2c (g := (mkF m 4 #[.val (.ref w_ASCENDING)] [(.ref w_ASCENDING), (.ref w_map)])) rfl (by rw [hml]; rfl) (Steps.refl _) (argsL := []) (rest := [(.ref w_map)]) (lenOf pd_0 rfl) rfl (by show 2 * 0 + _ ≤ _; exact Nat.le_of_eq rfl) (hb hby d1_4) (fun _ _ => ⟨rfl, e1, (by decide : 0 + 0 ≤ _), (by decide : 0 + 0 ≤ _)⟩)
  dsimp only [Pt.U, Pt.locs, Pt.cells, Pt.slots] at X2 l2 y2 z2 st2 hQ2
  subst l2 y2 z2
  obtain ⟨rfl, N2q, e2⟩ := hQ2
  have N := Fr.app N N2q
  refine own_tr (T' := T2) (F' := (mkF m 7 #[.val (.ref w_ASCENDING)] [(.int (0 : Int32)), (.ref w_map)])) st2 ?_
  refine own_st (T' := T2) (F' := (mkF m 8 #[.val (.ref w_ASCENDING)] [(.int (1 : Int32))])) (fun t k => X2.iaload hx (j := (0 : Int32)) (v := (.int (1 : Int32))) (by rw [e2]; exact (A_map.ext O).1) (State.isArrayOf_alike hZ.alike A_map.2.1) A_map.2.2 M0.1 M0.2 (g := (mkF m 7 #[.val (.ref w_ASCENDING)] [(.int (0 : Int32)), (.ref w_map)])) rfl rfl (hb hby d1_7) _ k) ?_
  refine own_st (T' := T2) (F' := (mkF m 46 #[.val (.ref w_ASCENDING)] [])) (fun t k => X2.lookupswitchHit hx (g := (mkF m 8 #[.val (.ref w_ASCENDING)] [(.int (1 : Int32))])) rfl (k := (1 : Int32)) rfl (hb hby d1_8) (by first | decide | decide +kernel) (a := 1) (off := 38) (by first | decide | decide +kernel) (by show (0 : Int) ≤ ((8 : Nat) : Int) + 38; decide) _ k) ?_
  obtain ⟨T3, X3, e3, st3⟩ := getS2 X2 hx hZ hown (host := "") (Or.inl (hw _ (List.mem_of_getElem? (i := 19) rfl))) Via.refl e2 (S_LAST.ext O) (g := (mkF m 46 #[.val (.ref w_ASCENDING)] [])) rfl (hb hby d1_46)
  refine own_st (T' := T3) (F' := (mkF m 49 #[.val (.ref w_ASCENDING)] [(.ref w_LAST)])) st3 ?_
  refine own_st (T' := T3) (F' := (mkF m 55 #[.val (.ref w_ASCENDING)] [(.ref w_LAST)])) (fun t k => XS.goto X3.here hx rfl (pc0 := 49) (pc' := 55) rfl (hb hby d1_49) (by decide) (by decide) k) ?_
  exact own_retA X3 hx (t := (.object "com/example/turnleaf/turnleaf/page/Nulls")) Bd.returns rfl rfl (hb hby d1_55) hlk (by show Q1 Z (.ref w_LAST) h0 _ T3.heap _; rw [e3]; exact ⟨rfl, N, rfl⟩) (by decide) (by decide)
set_option maxRecDepth 65536 in
set_option maxHeartbeats 40000000 in
theorem rm1_DESCENDING (l : Launch) (Z : State) (a0 : Array Value) {w_ASCENDING : Addr} {w_LAST : Addr} {w_DESCENDING : Addr} {w_FIRST : Addr} {w_map : Addr} {cl_map : Cell} (CX : Ctx Z a0 w_ASCENDING w_LAST w_DESCENDING w_FIRST w_map cl_map) (ws : List Jvm.Cond)  (h0 : Heap) (O : Ext Z.heap h0)  :
    MetFree l (⟨"com/example/turnleaf/turnleaf/page/Nulls", "largestIn", "(Lcom/example/turnleaf/turnleaf/page/Direction;)Lcom/example/turnleaf/turnleaf/page/Nulls;"⟩ : MethodName) (head1 (Jvm.Cond.code (⟨"com/example/turnleaf/turnleaf/page/Nulls", "largestIn", "(Lcom/example/turnleaf/turnleaf/page/Direction;)Lcom/example/turnleaf/turnleaf/page/Nulls;"⟩ : MethodName) prog_13_method_4_code 1 (some (.object "com/example/turnleaf/turnleaf/page/Nulls")) :: ws) ({ frames := 1, cells := 0, slots := 0, locals := 13 } : Room)) (fun a U => a = #[(.ref w_DESCENDING)] ∧ Z.Warmed39 U.vm ∧ U.heap = h0) (fun _ _ _ _ _ => True) (fun _ U o U' => ∃ v L, o = .returned v ∧ Q1 Z (.ref w_FIRST) h0 v U'.heap L ∧ FrameEnd U o U' L ({ frames := 1, cells := 0, slots := 0, locals := 13 } : Room).cells ({ frames := 1, cells := 0, slots := 0, locals := 13 } : Room).slots) := by
  refine MetFree.of_bodySF (plainFor_of_name pn_1) hisR ?_
  intro p e s m args below meth c s₁ Bd hml0 hP hK
  obtain ⟨rfl, hZ, hh⟩ := hP
  have CX0 := CX
  obtain ⟨hw, S_ASCENDING, E_ASCENDING, S_LAST, E_LAST, S_DESCENDING, E_DESCENDING, S_FIRST, E_FIRST, O_ASCENDING, O_DESCENDING, O_FIRST, O_LAST, S_map, A_map, M0, M1, -⟩ := CX0
  have hx := Bd.exec
  have hby := Bd.bytes
  have hml : c.maxLocals = 1 := hml0
  have hown : s.vm.findClass "com/example/turnleaf/turnleaf/page/Nulls" = some m.cls := findClass_of_methodNamed Bd.named
  have hnm := (name_of_methodNamed Bd.named Bd.method).1
  have hlk : meth.locks = false := BodyLoose.notSynchronized Bd
  have X0 : Stand p l e ({ frames := 1, cells := 0, slots := 0, locals := 13 } : Room) s m #[(.ref w_DESCENDING)] below meth c s₁ [] 0 0 := Stand.of_body Bd
  have e0 : s₁.heap = h0 := by rw [← hh, Bd.state]; rfl
  have N := Fr.nil Z.heap.size
  show own_Done p.tables e below (own_R (Q1 Z (.ref w_FIRST) h0) s 0 0) s₁ (entryFrame m #[(.ref w_DESCENDING)] 1)
  refine own_st (T' := s₁) (F' := (mkF m 0 #[.val (.ref w_DESCENDING)] [])) (fun t k => castTop (by first | rfl | (simp [entryFrame, mkF, argsToLocals, Value.category]; done)) k) ?_
  obtain ⟨T1, X1, e1, st1⟩ := getS2 X0 hx hZ hown (host := "") (Or.inl (hw _ (List.mem_of_getElem? (i := 7) rfl))) Via.refl e0 (S_map.ext O) (g := (mkF m 0 #[.val (.ref w_DESCENDING)] [])) rfl (hb hby d1_0)
  refine own_st (T' := T1) (F' := (mkF m 3 #[.val (.ref w_DESCENDING)] [(.ref w_map)])) st1 ?_
  refine own_st (T' := T1) (F' := (mkF m 4 #[.val (.ref w_DESCENDING)] [(.ref w_DESCENDING), (.ref w_map)])) (fun t k => XS.aloadN X1.here hx rfl (hb hby d1_3) rfl rfl k) ?_
  obtain ⟨cq2, kq2, q2a, q2b, q2c⟩ := isOf hZ e1 (E_DESCENDING.ext O)
  obtain ⟨v2, _, ⟨T2, L2, k2, n2⟩, -, X2, ⟨Lc2, hQ2, l2, y2, z2⟩, st2⟩ := X1.virtualBackUp hx (x := (⟨"com/example/turnleaf/turnleaf/page/Direction", "ordinal", "()I"⟩ : MethodName)) (y := (⟨"java/lang/Enum", "ordinal", "()I"⟩ : MethodName)) hown (mvT hZ (hw _ (List.mem_of_getElem? (i := 10) rfl))) (mvT hZ (hw _ (List.mem_of_getElem? (i := 11) rfl))) (mvT hZ (hw _ (List.mem_of_getElem? (i := 12) rfl))) (by decide) (mvT hZ (hw _ (List.mem_of_getElem? (i := 14) rfl))) (mvT hZ (hw _ (List.mem_of_getElem? (i := 13) rfl))) (backOf (W := 1) (rm2 l Z a0 CX [] w_DESCENDING (1 : Int32) h0 O (O_DESCENDING.ext O)) hZ (hw _ (List.mem_of_getElem? (i := 16) rfl)) (hw _ (List.mem_of_getElem? (i := 15) rfl)) (by decide) (by decide)) q2a q2c (g := (mkF m 4 #[.val (.ref w_DESCENDING)] [(.ref w_DESCENDING), (.ref w_map)])) rfl (by rw [hml]; rfl) (Steps.refl _) (argsL := []) (rest := [(.ref w_map)]) (lenOf pd_0 rfl) rfl (by show 2 * 0 + _ ≤ _; exact Nat.le_of_eq rfl) (hb hby d1_4) (fun _ _ => ⟨rfl, e1, (by decide : 0 + 0 ≤ _), (by decide : 0 + 0 ≤ _)⟩)
  dsimp only [Pt.U, Pt.locs, Pt.cells, Pt.slots] at X2 l2 y2 z2 st2 hQ2
  subst l2 y2 z2
  obtain ⟨rfl, N2q, e2⟩ := hQ2
  have N := Fr.app N N2q
  refine own_tr (T' := T2) (F' := (mkF m 7 #[.val (.ref w_DESCENDING)] [(.int (1 : Int32)), (.ref w_map)])) st2 ?_
  refine own_st (T' := T2) (F' := (mkF m 8 #[.val (.ref w_DESCENDING)] [(.int (2 : Int32))])) (fun t k => X2.iaload hx (j := (1 : Int32)) (v := (.int (2 : Int32))) (by rw [e2]; exact (A_map.ext O).1) (State.isArrayOf_alike hZ.alike A_map.2.1) A_map.2.2 M1.1 M1.2 (g := (mkF m 7 #[.val (.ref w_DESCENDING)] [(.int (1 : Int32)), (.ref w_map)])) rfl rfl (hb hby d1_7) _ k) ?_
  refine own_st (T' := T2) (F' := (mkF m 52 #[.val (.ref w_DESCENDING)] [])) (fun t k => X2.lookupswitchHit hx (g := (mkF m 8 #[.val (.ref w_DESCENDING)] [(.int (2 : Int32))])) rfl (k := (2 : Int32)) rfl (hb hby d1_8) (by first | decide | decide +kernel) (a := 2) (off := 44) (by first | decide | decide +kernel) (by show (0 : Int) ≤ ((8 : Nat) : Int) + 44; decide) _ k) ?_
  obtain ⟨T3, X3, e3, st3⟩ := getS2 X2 hx hZ hown (host := "") (Or.inl (hw _ (List.mem_of_getElem? (i := 24) rfl))) Via.refl e2 (S_FIRST.ext O) (g := (mkF m 52 #[.val (.ref w_DESCENDING)] [])) rfl (hb hby d1_52)
  refine own_st (T' := T3) (F' := (mkF m 55 #[.val (.ref w_DESCENDING)] [(.ref w_FIRST)])) st3 ?_
  exact own_retA X3 hx (t := (.object "com/example/turnleaf/turnleaf/page/Nulls")) Bd.returns rfl rfl (hb hby d1_55) hlk (by show Q1 Z (.ref w_FIRST) h0 _ T3.heap _; rw [e3]; exact ⟨rfl, N, rfl⟩) (by decide) (by decide)
theorem pn_2 : plainName "com/example/turnleaf/turnleaf/page/NullsLargestInPinLaw" = true := by first | (simp [plainName, overriddenIn]; done) | decide +kernel
theorem pd_1 : parseMethodDescriptor "(Lcom/example/turnleaf/turnleaf/page/Direction;)Lcom/example/turnleaf/turnleaf/page/Nulls;" = some ⟨[(.object "com/example/turnleaf/turnleaf/page/Direction")], some (.object "com/example/turnleaf/turnleaf/page/Nulls")⟩ := by decide +kernel
set_option maxRecDepth 65536 in
set_option maxHeartbeats 40000000 in
theorem rm0 (l : Launch) (Z : State) (a0 : Array Value) {w_ASCENDING : Addr} {w_LAST : Addr} {w_DESCENDING : Addr} {w_FIRST : Addr} {w_map : Addr} {cl_map : Cell} (CX : Ctx Z a0 w_ASCENDING w_LAST w_DESCENDING w_FIRST w_map cl_map) (ws : List Jvm.Cond) (x0 : Int32) (h0 : Heap) (O : Ext Z.heap h0)  :
    MetFree l x (head1 (Jvm.Cond.code x code maxLocals ret :: ws) room_1) (fun a U => a = #[(.int x0)] ∧ Z.Warmed39 U.vm ∧ U.heap = h0) (fun _ _ _ _ _ => True) (fun _ U o U' => ∃ v L, o = .returned v ∧ Q0 Z v U'.heap L ∧ FrameEnd U o U' L room_1.cells room_1.slots) := by
  refine MetFree.of_bodySF (plainFor_of_name pn_2) hisR ?_
  intro p e s m args below meth c s₁ Bd hml0 hP hK
  obtain ⟨rfl, hZ, hh⟩ := hP
  have CX0 := CX
  obtain ⟨hw, S_ASCENDING, E_ASCENDING, S_LAST, E_LAST, S_DESCENDING, E_DESCENDING, S_FIRST, E_FIRST, O_ASCENDING, O_DESCENDING, O_FIRST, O_LAST, S_map, A_map, M0, M1, -⟩ := CX0
  have hx := Bd.exec
  have hby := Bd.bytes
  have hml : c.maxLocals = 5 := hml0
  have hown : s.vm.findClass "com/example/turnleaf/turnleaf/page/NullsLargestInPinLaw" = some m.cls := findClass_of_methodNamed Bd.named
  have hnm := (name_of_methodNamed Bd.named Bd.method).1
  have hlk : meth.locks = false := BodyLoose.notSynchronized Bd
  have X0 : Stand p l e room_1 s m #[(.int x0)] below meth c s₁ [] 0 0 := Stand.of_body Bd
  have e0 : s₁.heap = h0 := by rw [← hh, Bd.state]; rfl
  have N := Fr.nil Z.heap.size
  show own_Done p.tables e below (own_R (Q0 Z) s 0 0) s₁ (entryFrame m #[(.int x0)] maxLocals)
  refine own_st (T' := s₁) (F' := (mkF m 0 #[.val (.int x0), .unset, .unset, .unset, .unset] [])) (fun t k => castTop (by first | rfl | (simp [entryFrame, mkF, argsToLocals, Value.category, maxLocals]; done)) k) ?_
  refine own_st (T' := s₁) (F' := (mkF m 1 #[.val (.int x0), .unset, .unset, .unset, .unset] [(.int x0)])) (fun t k => XS.iloadN X0.here hx rfl (hb hby at_0) rfl k) ?_
  refine own_st (T' := s₁) (F' := (mkF m 2 #[.val (.int x0), .unset, .unset, .unset, .unset] [(.int (1 : Int32)), (.int x0)])) (fun t k => XS.iconst X0.here hx rfl (hb hby at_1) k) ?_
  refine own_st (T' := s₁) (F' := (mkF m 3 #[.val (.int x0), .unset, .unset, .unset, .unset] [(.int (x0 &&& (1 : Int32)))])) (fun t k => XS.iand X0.here hx rfl (hb hby at_2) rfl k) ?_
  by_cases hc3_1 : (x0 &&& (1 : Int32)) = (0 : Int32)
  · refine own_st (T' := s₁) (F' := (mkF m 6 #[.val (.int x0), .unset, .unset, .unset, .unset] [])) (fun t k => XS.ifNo X0.here hx rfl (hb hby at_3) rfl ((if0 _ _).trans (teq hc3_1).2) k) ?_
    obtain ⟨T2, X2, e2, st2⟩ := getS2 X0 hx hZ hown (host := "") (Or.inl (hw _ (List.mem_of_getElem? (i := 0) rfl))) Via.refl e0 (S_ASCENDING.ext O) (g := (mkF m 6 #[.val (.int x0), .unset, .unset, .unset, .unset] [])) rfl (hb hby at_6)
    refine own_st (T' := T2) (F' := (mkF m 9 #[.val (.int x0), .unset, .unset, .unset, .unset] [(.ref w_ASCENDING)])) st2 ?_
    refine own_st (T' := T2) (F' := (mkF m 15 #[.val (.int x0), .unset, .unset, .unset, .unset] [(.ref w_ASCENDING)])) (fun t k => XS.goto X2.here hx rfl (pc0 := 9) (pc' := 15) rfl (hb hby at_9) (by decide) (by decide) k) ?_
    refine own_st (T' := T2) (F' := (mkF m 16 #[.val (.int x0), .val (.ref w_ASCENDING), .unset, .unset, .unset] [])) (fun t k => XS.astoreN X2.here hx rfl (hb hby at_15) rfl rfl (l' := #[.val (.int x0), .val (.ref w_ASCENDING), .unset, .unset, .unset]) rfl k) ?_
    refine own_st (T' := T2) (F' := (mkF m 17 #[.val (.int x0), .val (.ref w_ASCENDING), .unset, .unset, .unset] [(.ref w_ASCENDING)])) (fun t k => XS.aloadN X2.here hx rfl (hb hby at_16) rfl rfl k) ?_
    obtain ⟨v3, _, ⟨T3, L3, k3, n3⟩, -, X3, ⟨Lc3, hQ3, l3, y3, z3⟩, st3⟩ := Jvm.LawKit.callS X2 hx (y := (⟨"com/example/turnleaf/turnleaf/page/Nulls", "largestIn", "(Lcom/example/turnleaf/turnleaf/page/Direction;)Lcom/example/turnleaf/turnleaf/page/Nulls;"⟩ : MethodName)) hown (mvT hZ (hw _ (List.mem_of_getElem? (i := 3) rfl))) (mvT hZ (hw _ (List.mem_of_getElem? (i := 4) rfl))) (mvT hZ (hw _ (List.mem_of_getElem? (i := 5) rfl))) (mvT hZ (hw _ (List.mem_of_getElem? (i := 6) rfl))) (by decide) (backOf (W := 0) (rm1_ASCENDING l Z a0 CX [] h0 O) hZ (hw _ (List.mem_of_getElem? (i := 6) rfl)) (hw _ (List.mem_of_getElem? (i := 5) rfl)) (by decide) (by decide)) (g := (mkF m 17 #[.val (.int x0), .val (.ref w_ASCENDING), .unset, .unset, .unset] [(.ref w_ASCENDING)])) rfl (by rw [hml]; rfl) (argsL := [(.ref w_ASCENDING)]) (rest := []) (lenOf pd_1 rfl) rfl (by show 2 * 0 + _ ≤ _; exact Nat.le_of_eq rfl) (hb hby at_17) (fun _ _ => ⟨rfl, e2, (by decide : 0 + 0 ≤ _), (by decide : 0 + 0 ≤ _)⟩)
    dsimp only [Pt.U, Pt.locs, Pt.cells, Pt.slots] at X3 l3 y3 z3 st3 hQ3
    subst l3 y3 z3
    obtain ⟨rfl, N3q, e3⟩ := hQ3
    have N := Fr.app N N3q
    refine own_st (T' := T3) (F' := (mkF m 20 #[.val (.int x0), .val (.ref w_ASCENDING), .unset, .unset, .unset] [(.ref w_LAST)])) st3 ?_
    refine own_st (T' := T3) (F' := (mkF m 21 #[.val (.int x0), .val (.ref w_ASCENDING), .val (.ref w_LAST), .unset, .unset] [])) (fun t k => XS.astoreN X3.here hx rfl (hb hby at_20) rfl rfl (l' := #[.val (.int x0), .val (.ref w_ASCENDING), .val (.ref w_LAST), .unset, .unset]) rfl k) ?_
    refine own_st (T' := T3) (F' := (mkF m 22 #[.val (.int x0), .val (.ref w_ASCENDING), .val (.ref w_LAST), .unset, .unset] [(.ref w_LAST)])) (fun t k => XS.aloadN X3.here hx rfl (hb hby at_21) rfl rfl k) ?_
    refine own_st (T' := T3) (F' := (mkF m 27 #[.val (.int x0), .val (.ref w_ASCENDING), .val (.ref w_LAST), .unset, .unset] [])) (fun t k => XS.ifnonnullYes X3.here hx rfl (pc0 := 22) (pc' := 27) rfl (hb hby at_22) rfl (by decide) (by decide) k) ?_
    refine own_st (T' := T3) (F' := (mkF m 28 #[.val (.int x0), .val (.ref w_ASCENDING), .val (.ref w_LAST), .unset, .unset] [(.ref w_ASCENDING)])) (fun t k => XS.aloadN X3.here hx rfl (hb hby at_27) rfl rfl k) ?_
    obtain ⟨T4, X4, e4, st4⟩ := getS2 X3 hx hZ hown (host := "") (Or.inl (hw _ (List.mem_of_getElem? (i := 0) rfl))) Via.refl e3 (S_ASCENDING.ext O) (g := (mkF m 28 #[.val (.int x0), .val (.ref w_ASCENDING), .val (.ref w_LAST), .unset, .unset] [(.ref w_ASCENDING)])) rfl (hb hby at_28)
    refine own_st (T' := T4) (F' := (mkF m 31 #[.val (.int x0), .val (.ref w_ASCENDING), .val (.ref w_LAST), .unset, .unset] [(.ref w_ASCENDING), (.ref w_ASCENDING)])) st4 ?_
    refine own_st (T' := T4) (F' := (mkF m 34 #[.val (.int x0), .val (.ref w_ASCENDING), .val (.ref w_LAST), .unset, .unset] [])) (fun t k => Jvm.RoadKit.acmp (g := (mkF m 31 #[.val (.int x0), .val (.ref w_ASCENDING), .val (.ref w_LAST), .unset, .unset] [(.ref w_ASCENDING), (.ref w_ASCENDING)])) X4 hx rfl rfl rfl (pc0 := 31) (pc' := 34) (same := true) rfl (hb hby at_31) rfl (decide_eq_true rfl) (by decide) (by decide) k) ?_
    refine own_st (T' := T4) (F' := (mkF m 35 #[.val (.int x0), .val (.ref w_ASCENDING), .val (.ref w_LAST), .unset, .unset] [(.int (1 : Int32))])) (fun t k => XS.iconst X4.here hx rfl (hb hby at_34) k) ?_
    refine own_st (T' := T4) (F' := (mkF m 39 #[.val (.int x0), .val (.ref w_ASCENDING), .val (.ref w_LAST), .unset, .unset] [(.int (1 : Int32))])) (fun t k => XS.goto X4.here hx rfl (pc0 := 35) (pc' := 39) rfl (hb hby at_35) (by decide) (by decide) k) ?_
    refine own_st (T' := T4) (F' := (mkF m 40 #[.val (.int x0), .val (.ref w_ASCENDING), .val (.ref w_LAST), .val (.int (1 : Int32)), .unset] [])) (fun t k => XS.istoreN X4.here hx rfl (hb hby at_39) rfl (l' := #[.val (.int x0), .val (.ref w_ASCENDING), .val (.ref w_LAST), .val (.int (1 : Int32)), .unset]) rfl k) ?_
    refine own_st (T' := T4) (F' := (mkF m 41 #[.val (.int x0), .val (.ref w_ASCENDING), .val (.ref w_LAST), .val (.int (1 : Int32)), .unset] [(.ref w_LAST)])) (fun t k => XS.aloadN X4.here hx rfl (hb hby at_40) rfl rfl k) ?_
    obtain ⟨T5, X5, e5, st5⟩ := getS2 X4 hx hZ hown (host := "") (Or.inl (hw _ (List.mem_of_getElem? (i := 21) rfl))) Via.refl e4 (S_LAST.ext O) (g := (mkF m 41 #[.val (.int x0), .val (.ref w_ASCENDING), .val (.ref w_LAST), .val (.int (1 : Int32)), .unset] [(.ref w_LAST)])) rfl (hb hby at_41)
    refine own_st (T' := T5) (F' := (mkF m 44 #[.val (.int x0), .val (.ref w_ASCENDING), .val (.ref w_LAST), .val (.int (1 : Int32)), .unset] [(.ref w_LAST), (.ref w_LAST)])) st5 ?_
    refine own_st (T' := T5) (F' := (mkF m 47 #[.val (.int x0), .val (.ref w_ASCENDING), .val (.ref w_LAST), .val (.int (1 : Int32)), .unset] [])) (fun t k => Jvm.RoadKit.acmp (g := (mkF m 44 #[.val (.int x0), .val (.ref w_ASCENDING), .val (.ref w_LAST), .val (.int (1 : Int32)), .unset] [(.ref w_LAST), (.ref w_LAST)])) X5 hx rfl rfl rfl (pc0 := 44) (pc' := 47) (same := true) rfl (hb hby at_44) rfl (decide_eq_true rfl) (by decide) (by decide) k) ?_
    refine own_st (T' := T5) (F' := (mkF m 48 #[.val (.int x0), .val (.ref w_ASCENDING), .val (.ref w_LAST), .val (.int (1 : Int32)), .unset] [(.int (1 : Int32))])) (fun t k => XS.iconst X5.here hx rfl (hb hby at_47) k) ?_
    refine own_st (T' := T5) (F' := (mkF m 52 #[.val (.int x0), .val (.ref w_ASCENDING), .val (.ref w_LAST), .val (.int (1 : Int32)), .unset] [(.int (1 : Int32))])) (fun t k => XS.goto X5.here hx rfl (pc0 := 48) (pc' := 52) rfl (hb hby at_48) (by decide) (by decide) k) ?_
    refine own_st (T' := T5) (F' := (mkF m 54 #[.val (.int x0), .val (.ref w_ASCENDING), .val (.ref w_LAST), .val (.int (1 : Int32)), .val (.int (1 : Int32))] [])) (fun t k => XS.istore X5.here hx rfl (hb hby at_52) rfl (l' := #[.val (.int x0), .val (.ref w_ASCENDING), .val (.ref w_LAST), .val (.int (1 : Int32)), .val (.int (1 : Int32))]) rfl k) ?_
    refine own_st (T' := T5) (F' := (mkF m 56 #[.val (.int x0), .val (.ref w_ASCENDING), .val (.ref w_LAST), .val (.int (1 : Int32)), .val (.int (1 : Int32))] [(.int (1 : Int32))])) (fun t k => XS.iload X5.here hx rfl (hb hby at_54) rfl k) ?_
    refine own_st (T' := T5) (F' := (mkF m 57 #[.val (.int x0), .val (.ref w_ASCENDING), .val (.ref w_LAST), .val (.int (1 : Int32)), .val (.int (1 : Int32))] [(.int (1 : Int32)), (.int (1 : Int32))])) (fun t k => XS.iloadN X5.here hx rfl (hb hby at_56) rfl k) ?_
    refine own_st (T' := T5) (F' := (mkF m 60 #[.val (.int x0), .val (.ref w_ASCENDING), .val (.ref w_LAST), .val (.int (1 : Int32)), .val (.int (1 : Int32))] [])) (fun t k => XS.icmpNo X5.here hx rfl (hb hby at_57) rfl (teq rfl).2 k) ?_
    refine own_st (T' := T5) (F' := (mkF m 61 #[.val (.int x0), .val (.ref w_ASCENDING), .val (.ref w_LAST), .val (.int (1 : Int32)), .val (.int (1 : Int32))] [(.int (1 : Int32))])) (fun t k => XS.iconst X5.here hx rfl (hb hby at_60) k) ?_
    refine own_st (T' := T5) (F' := (mkF m 65 #[.val (.int x0), .val (.ref w_ASCENDING), .val (.ref w_LAST), .val (.int (1 : Int32)), .val (.int (1 : Int32))] [(.int (1 : Int32))])) (fun t k => XS.goto X5.here hx rfl (pc0 := 61) (pc' := 65) rfl (hb hby at_61) (by decide) (by decide) k) ?_
    exact own_retN X5 hx (t := .boolean) Bd.returns (by simp) (by decide) (hb hby at_65) hlk (by show Q0 Z _ T5.heap _; rw [e5]; exact ⟨rfl, N⟩) (by decide) (by decide)
  · refine own_st (T' := s₁) (F' := (mkF m 12 #[.val (.int x0), .unset, .unset, .unset, .unset] [])) (fun t k => XS.ifYes X0.here hx rfl (pc0 := 3) (pc' := 12) rfl (hb hby at_3) rfl ((if0 _ _).trans (feq hc3_1).2) (by decide) (by decide) k) ?_
    obtain ⟨T6, X6, e6, st6⟩ := getS2 X0 hx hZ hown (host := "") (Or.inl (hw _ (List.mem_of_getElem? (i := 22) rfl))) Via.refl e0 (S_DESCENDING.ext O) (g := (mkF m 12 #[.val (.int x0), .unset, .unset, .unset, .unset] [])) rfl (hb hby at_12)
    refine own_st (T' := T6) (F' := (mkF m 15 #[.val (.int x0), .unset, .unset, .unset, .unset] [(.ref w_DESCENDING)])) st6 ?_
    refine own_st (T' := T6) (F' := (mkF m 16 #[.val (.int x0), .val (.ref w_DESCENDING), .unset, .unset, .unset] [])) (fun t k => XS.astoreN X6.here hx rfl (hb hby at_15) rfl rfl (l' := #[.val (.int x0), .val (.ref w_DESCENDING), .unset, .unset, .unset]) rfl k) ?_
    refine own_st (T' := T6) (F' := (mkF m 17 #[.val (.int x0), .val (.ref w_DESCENDING), .unset, .unset, .unset] [(.ref w_DESCENDING)])) (fun t k => XS.aloadN X6.here hx rfl (hb hby at_16) rfl rfl k) ?_
    obtain ⟨v7, _, ⟨T7, L7, k7, n7⟩, -, X7, ⟨Lc7, hQ7, l7, y7, z7⟩, st7⟩ := Jvm.LawKit.callS X6 hx (y := (⟨"com/example/turnleaf/turnleaf/page/Nulls", "largestIn", "(Lcom/example/turnleaf/turnleaf/page/Direction;)Lcom/example/turnleaf/turnleaf/page/Nulls;"⟩ : MethodName)) hown (mvT hZ (hw _ (List.mem_of_getElem? (i := 3) rfl))) (mvT hZ (hw _ (List.mem_of_getElem? (i := 4) rfl))) (mvT hZ (hw _ (List.mem_of_getElem? (i := 5) rfl))) (mvT hZ (hw _ (List.mem_of_getElem? (i := 6) rfl))) (by decide) (backOf (W := 0) (rm1_DESCENDING l Z a0 CX [] h0 O) hZ (hw _ (List.mem_of_getElem? (i := 6) rfl)) (hw _ (List.mem_of_getElem? (i := 5) rfl)) (by decide) (by decide)) (g := (mkF m 17 #[.val (.int x0), .val (.ref w_DESCENDING), .unset, .unset, .unset] [(.ref w_DESCENDING)])) rfl (by rw [hml]; rfl) (argsL := [(.ref w_DESCENDING)]) (rest := []) (lenOf pd_1 rfl) rfl (by show 2 * 0 + _ ≤ _; exact Nat.le_of_eq rfl) (hb hby at_17) (fun _ _ => ⟨rfl, e6, (by decide : 0 + 0 ≤ _), (by decide : 0 + 0 ≤ _)⟩)
    dsimp only [Pt.U, Pt.locs, Pt.cells, Pt.slots] at X7 l7 y7 z7 st7 hQ7
    subst l7 y7 z7
    obtain ⟨rfl, N7q, e7⟩ := hQ7
    have N := Fr.app N N7q
    refine own_st (T' := T7) (F' := (mkF m 20 #[.val (.int x0), .val (.ref w_DESCENDING), .unset, .unset, .unset] [(.ref w_FIRST)])) st7 ?_
    refine own_st (T' := T7) (F' := (mkF m 21 #[.val (.int x0), .val (.ref w_DESCENDING), .val (.ref w_FIRST), .unset, .unset] [])) (fun t k => XS.astoreN X7.here hx rfl (hb hby at_20) rfl rfl (l' := #[.val (.int x0), .val (.ref w_DESCENDING), .val (.ref w_FIRST), .unset, .unset]) rfl k) ?_
    refine own_st (T' := T7) (F' := (mkF m 22 #[.val (.int x0), .val (.ref w_DESCENDING), .val (.ref w_FIRST), .unset, .unset] [(.ref w_FIRST)])) (fun t k => XS.aloadN X7.here hx rfl (hb hby at_21) rfl rfl k) ?_
    refine own_st (T' := T7) (F' := (mkF m 27 #[.val (.int x0), .val (.ref w_DESCENDING), .val (.ref w_FIRST), .unset, .unset] [])) (fun t k => XS.ifnonnullYes X7.here hx rfl (pc0 := 22) (pc' := 27) rfl (hb hby at_22) rfl (by decide) (by decide) k) ?_
    refine own_st (T' := T7) (F' := (mkF m 28 #[.val (.int x0), .val (.ref w_DESCENDING), .val (.ref w_FIRST), .unset, .unset] [(.ref w_DESCENDING)])) (fun t k => XS.aloadN X7.here hx rfl (hb hby at_27) rfl rfl k) ?_
    obtain ⟨T8, X8, e8, st8⟩ := getS2 X7 hx hZ hown (host := "") (Or.inl (hw _ (List.mem_of_getElem? (i := 0) rfl))) Via.refl e7 (S_ASCENDING.ext O) (g := (mkF m 28 #[.val (.int x0), .val (.ref w_DESCENDING), .val (.ref w_FIRST), .unset, .unset] [(.ref w_DESCENDING)])) rfl (hb hby at_28)
    refine own_st (T' := T8) (F' := (mkF m 31 #[.val (.int x0), .val (.ref w_DESCENDING), .val (.ref w_FIRST), .unset, .unset] [(.ref w_ASCENDING), (.ref w_DESCENDING)])) st8 ?_
    refine own_st (T' := T8) (F' := (mkF m 38 #[.val (.int x0), .val (.ref w_DESCENDING), .val (.ref w_FIRST), .unset, .unset] [])) (fun t k => Jvm.RoadKit.acmp (g := (mkF m 31 #[.val (.int x0), .val (.ref w_DESCENDING), .val (.ref w_FIRST), .unset, .unset] [(.ref w_ASCENDING), (.ref w_DESCENDING)])) X8 hx rfl rfl rfl (pc0 := 31) (pc' := 38) (same := false) rfl (hb hby at_31) rfl (decide_eq_false fun q => (O_DESCENDING.ne O_ASCENDING (by decide)) (Value.ref.inj q)) (by decide) (by decide) k) ?_
    refine own_st (T' := T8) (F' := (mkF m 39 #[.val (.int x0), .val (.ref w_DESCENDING), .val (.ref w_FIRST), .unset, .unset] [(.int (0 : Int32))])) (fun t k => XS.iconst X8.here hx rfl (hb hby at_38) k) ?_
    refine own_st (T' := T8) (F' := (mkF m 40 #[.val (.int x0), .val (.ref w_DESCENDING), .val (.ref w_FIRST), .val (.int (0 : Int32)), .unset] [])) (fun t k => XS.istoreN X8.here hx rfl (hb hby at_39) rfl (l' := #[.val (.int x0), .val (.ref w_DESCENDING), .val (.ref w_FIRST), .val (.int (0 : Int32)), .unset]) rfl k) ?_
    refine own_st (T' := T8) (F' := (mkF m 41 #[.val (.int x0), .val (.ref w_DESCENDING), .val (.ref w_FIRST), .val (.int (0 : Int32)), .unset] [(.ref w_FIRST)])) (fun t k => XS.aloadN X8.here hx rfl (hb hby at_40) rfl rfl k) ?_
    obtain ⟨T9, X9, e9, st9⟩ := getS2 X8 hx hZ hown (host := "") (Or.inl (hw _ (List.mem_of_getElem? (i := 21) rfl))) Via.refl e8 (S_LAST.ext O) (g := (mkF m 41 #[.val (.int x0), .val (.ref w_DESCENDING), .val (.ref w_FIRST), .val (.int (0 : Int32)), .unset] [(.ref w_FIRST)])) rfl (hb hby at_41)
    refine own_st (T' := T9) (F' := (mkF m 44 #[.val (.int x0), .val (.ref w_DESCENDING), .val (.ref w_FIRST), .val (.int (0 : Int32)), .unset] [(.ref w_LAST), (.ref w_FIRST)])) st9 ?_
    refine own_st (T' := T9) (F' := (mkF m 51 #[.val (.int x0), .val (.ref w_DESCENDING), .val (.ref w_FIRST), .val (.int (0 : Int32)), .unset] [])) (fun t k => Jvm.RoadKit.acmp (g := (mkF m 44 #[.val (.int x0), .val (.ref w_DESCENDING), .val (.ref w_FIRST), .val (.int (0 : Int32)), .unset] [(.ref w_LAST), (.ref w_FIRST)])) X9 hx rfl rfl rfl (pc0 := 44) (pc' := 51) (same := false) rfl (hb hby at_44) rfl (decide_eq_false fun q => (O_FIRST.ne O_LAST (by decide)) (Value.ref.inj q)) (by decide) (by decide) k) ?_
    refine own_st (T' := T9) (F' := (mkF m 52 #[.val (.int x0), .val (.ref w_DESCENDING), .val (.ref w_FIRST), .val (.int (0 : Int32)), .unset] [(.int (0 : Int32))])) (fun t k => XS.iconst X9.here hx rfl (hb hby at_51) k) ?_
    refine own_st (T' := T9) (F' := (mkF m 54 #[.val (.int x0), .val (.ref w_DESCENDING), .val (.ref w_FIRST), .val (.int (0 : Int32)), .val (.int (0 : Int32))] [])) (fun t k => XS.istore X9.here hx rfl (hb hby at_52) rfl (l' := #[.val (.int x0), .val (.ref w_DESCENDING), .val (.ref w_FIRST), .val (.int (0 : Int32)), .val (.int (0 : Int32))]) rfl k) ?_
    refine own_st (T' := T9) (F' := (mkF m 56 #[.val (.int x0), .val (.ref w_DESCENDING), .val (.ref w_FIRST), .val (.int (0 : Int32)), .val (.int (0 : Int32))] [(.int (0 : Int32))])) (fun t k => XS.iload X9.here hx rfl (hb hby at_54) rfl k) ?_
    refine own_st (T' := T9) (F' := (mkF m 57 #[.val (.int x0), .val (.ref w_DESCENDING), .val (.ref w_FIRST), .val (.int (0 : Int32)), .val (.int (0 : Int32))] [(.int (0 : Int32)), (.int (0 : Int32))])) (fun t k => XS.iloadN X9.here hx rfl (hb hby at_56) rfl k) ?_
    refine own_st (T' := T9) (F' := (mkF m 60 #[.val (.int x0), .val (.ref w_DESCENDING), .val (.ref w_FIRST), .val (.int (0 : Int32)), .val (.int (0 : Int32))] [])) (fun t k => XS.icmpNo X9.here hx rfl (hb hby at_57) rfl (teq rfl).2 k) ?_
    refine own_st (T' := T9) (F' := (mkF m 61 #[.val (.int x0), .val (.ref w_DESCENDING), .val (.ref w_FIRST), .val (.int (0 : Int32)), .val (.int (0 : Int32))] [(.int (1 : Int32))])) (fun t k => XS.iconst X9.here hx rfl (hb hby at_60) k) ?_
    refine own_st (T' := T9) (F' := (mkF m 65 #[.val (.int x0), .val (.ref w_DESCENDING), .val (.ref w_FIRST), .val (.int (0 : Int32)), .val (.int (0 : Int32))] [(.int (1 : Int32))])) (fun t k => XS.goto X9.here hx rfl (pc0 := 61) (pc' := 65) rfl (hb hby at_61) (by decide) (by decide) k) ?_
    exact own_retN X9 hx (t := .boolean) Bd.returns (by simp) (by decide) (hb hby at_65) hlk (by show Q0 Z _ T9.heap _; rw [e9]; exact ⟨rfl, N⟩) (by decide) (by decide)
set_option maxRecDepth 65536 in
set_option maxHeartbeats 40000000 in
theorem comes_1 {Post : Tables → Env → Array Value → State → Outcome → State → Prop} (hpost : ∀ tb e args s v u, (limb_1_1.after args s (.returned v) u = true ∧ limb_1_2.after args s (.returned v) u = true ∧ True) → FrameEnd s (.returned v) u (Jvm.fieldLocs frame_1_writes args s ++ Jvm.arrayLocs frame_1_arrays args s ++ Jvm.staticLocs frame_1_statics s) 0 0 → Post tb e args s (.returned v) u) :
    ArmFor flags0 classFile x code maxLocals ret World_1 tables_1 room_1 Calls_1 rest_1 Pre_1 Post := by
  intro l hfl _ _ p e ha hc hk s m args below hf hA hF happ hP
  obtain ⟨hcalls, hrest, hpre⟩ := hP
  obtain ⟨-, -, -, hnamed, -, -, -, hat⟩ := (Spec.applies_iff hf).mp happ
  obtain ⟨hg, hn⟩ := and_e (Cond.before_iff.mp (show (Jvm.Cond.and given_1 narrow_1).before args s = true from hpre))
  obtain ⟨g0, g1⟩ := and_e hg
  obtain ⟨w0, rfl⟩ : ∃ w0 : Value, args = #[w0] := by
    have hs : args.size = 1 := by simpa [Cond.value, given_1] using g0
    obtain ⟨L⟩ := args
    match L, hs with
    | [w0], _ => exact ⟨w0, rfl⟩
  have hw := fun d (hd : d ∈ tables_1) => atoms_spec (ws := Jvm.Cond.code x code maxLocals ret :: tables_1) hat d (List.mem_cons_of_mem _ hd)
  have hfit : Fit s := fun {y c} hc i hi => by
    obtain ⟨ha, rfl⟩ := Array.getElem?_eq_some_iff.mp hc
    have q := List.all_eq_true.mp ((Array.all_eq_true_iff_forall_mem.mp hF) _ (Array.getElem_mem ha)) i (List.mem_range.mpr hi)
    simpa [Array.getElem?_eq_getElem hi] using q
  obtain ⟨i0, ei0⟩ := is_v g1
  obtain rfl : w0 = (.int i0) := Option.some.inj ei0
  obtain ⟨n0a, n0b⟩ := and_e hn
  obtain ⟨n1a, n1b⟩ := and_e n0b
  obtain ⟨n2a, n2b⟩ := and_e n1b
  obtain ⟨n3a, n3b⟩ := and_e n2b
  obtain ⟨n4a, n4b⟩ := and_e n3b
  obtain ⟨n5a, n5b⟩ := and_e n4b
  obtain ⟨n6a, n6b⟩ := and_e n5b
  obtain ⟨n7a, n7b⟩ := and_e n6b
  obtain ⟨n8a, n8b⟩ := and_e n7b
  obtain ⟨n9a, n9b⟩ := and_e n8b
  obtain ⟨n10a, n10b⟩ := and_e n9b
  obtain ⟨w_ASCENDING, v_ASCENDING⟩ := exa_v n0a
  have E_ASCENDING := Exa.start v_ASCENDING n0a
  have S_ASCENDING := Sta.start v_ASCENDING (Or.inr ⟨(hw _ (List.mem_of_getElem? (i := 1) rfl)), (hw _ (List.mem_of_getElem? (i := 2) rfl))⟩)
  obtain ⟨w_LAST, v_LAST⟩ := exa_v n5a
  have E_LAST := Exa.start v_LAST n5a
  have S_LAST := Sta.start v_LAST (Or.inr ⟨(hw _ (List.mem_of_getElem? (i := 5) rfl)), (hw _ (List.mem_of_getElem? (i := 20) rfl))⟩)
  obtain ⟨w_DESCENDING, v_DESCENDING⟩ := exa_v n6a
  have E_DESCENDING := Exa.start v_DESCENDING n6a
  have S_DESCENDING := Sta.start v_DESCENDING (Or.inr ⟨(hw _ (List.mem_of_getElem? (i := 1) rfl)), (hw _ (List.mem_of_getElem? (i := 23) rfl))⟩)
  obtain ⟨w_FIRST, v_FIRST⟩ := exa_v n9a
  have E_FIRST := Exa.start v_FIRST n9a
  have S_FIRST := Sta.start v_FIRST (Or.inr ⟨(hw _ (List.mem_of_getElem? (i := 5) rfl)), (hw _ (List.mem_of_getElem? (i := 25) rfl))⟩)
  have O_ASCENDING := Fld.start (own_fld_int v_ASCENDING n3a)
  have O_DESCENDING := Fld.start (own_fld_int v_DESCENDING n7a)
  have O_FIRST := Fld.start (own_fld_int v_FIRST n10a)
  have O_LAST := Fld.start (own_fld_int v_LAST n10b)
  obtain ⟨w_map, v_map⟩ := arr_v n1a
  have S_map := Sta.start v_map (Or.inr ⟨(hw _ (List.mem_of_getElem? (i := 8) rfl)), (hw _ (List.mem_of_getElem? (i := 9) rfl))⟩)
  obtain ⟨cl_map, A_map⟩ := Arr.start v_map n1a
  have M0 := elem_in (own_eq_int n4a) v_map rfl A_map.1
  have M1 := elem_in (own_eq_int n8a) v_map rfl A_map.1
  have CX : Ctx s _ w_ASCENDING w_LAST w_DESCENDING w_FIRST w_map cl_map := ⟨hw, S_ASCENDING, E_ASCENDING, S_LAST, E_LAST, S_DESCENDING, E_DESCENDING, S_FIRST, E_FIRST, O_ASCENDING, O_DESCENDING, O_FIRST, O_LAST, S_map, A_map, M0, M1, trivial⟩
  obtain ⟨n, o, h1, h2, h3, _, L, rfl, ⟨rfl, N⟩, hq⟩ := rm0 l s _ CX tables_1 i0 s.heap (own_ext_refl _)  p e ha hc hk s m _ below hf ((Spec.applies_iff_loose hf).mp happ).1 ⟨rfl, State.Warmed39.refl s, rfl⟩ trivial
  refine ⟨n, _, h1, h2, h3, hpost _ _ _ _ _ _ ⟨Cond.after_iff.mpr rfl, Cond.after_iff.mpr (eq_i res_at (Term.int_eval (1)) rfl), trivial⟩ ⟨hq.1, hq.2.1, (hq.2.2.sift fun y hy => Or.inr (N y hy)).mono (by decide) (by decide)⟩⟩
theorem main_1_1 : Claimed_1_1 := comes_1 fun _ _ _ _ _ _ h hF => ⟨h.1, hF⟩
theorem main_1_2 : Claimed_1_2 := comes_1 fun _ _ _ _ _ _ h hF => ⟨h.2.1, hF⟩
end Jvm.Pilot.@@N@@
namespace Jvm.Pilot.@@N@@
open Jvm Jvm.ClassFile Sem Op Lib Jvm.Free Jvm.Stand Jvm.Pilot.@@N@@.Jvm.D
/-! MADE BY PROGRAM (witnessworld.py) out of the Statement's table words and the real class files: 14 classes; the members and pool entries that the words name. The judged class is class 1, her method 1. -/
namespace start1
open Jvm.ClassFile
def u (s : String) : CpInfo := .utf8 (stringToUtf16 s)
/-- a pool by its gaps: so many unusable entries, then the entry; so many at the end -/
def gap : Nat → List CpInfo → List CpInfo
  | 0, r => r
  | n + 1, r => .unusable :: gap n r
def poolList (es : List (Nat × CpInfo)) (last : Nat) : List CpInfo := es.foldr (fun e r => gap e.1 (e.2 :: r)) (gap last [])
def pool (es : List (Nat × CpInfo)) (last : Nat) : Array CpInfo := ⟨poolList es last⟩
def fileOf (pool : Array CpInfo) (this : Nat) (attrs : Array Attribute := #[]) (ms : Array MethodInfo := #[]) (fl : Nat := 33) (sup : Nat := 0) (ifs : Array Nat := #[]) (fds : Array FieldInfo := #[]) : ClassFile where
  minorVersion := 0
  majorVersion := 65
  constantPool := pool
  accessFlags := fl
  thisClass := this
  superClass := sup
  interfaces := ifs
  fields := fds
  methods := ms
  attributes := attrs
def plain (name : String) (sup : Option ClassId) : Class where
  name := name
  kind := .ordinary
  loader := none
  accessFlags := 33
  super := sup
  interfaces := #[]
  cf := none
  fields := #[]
  methods := #[]
  instanceTypes := #[]
  staticTypes := #[]
  resolved := #[]
  callSites := []
  init := .initialized
  statics := none
  mirror := none

def pool0 : Array CpInfo := pool [(5, u "<init>"), (0, u "()V"), (1, .class_ 10), (1, u "java/lang/Object")] 113

def k0m0 : Method := { name := "<init>", desc := "()V", sig := { parameters := [], returnType := none }, accessFlags := 1, code := none }
/-- java/lang/Object -/
def k0 : Class := { plain "java/lang/Object" none with
  accessFlags := 33
  interfaces := #[]
  cf := some (fileOf pool0 8 #[] #[{ accessFlags := 1, nameIndex := 5, descriptorIndex := 6, attributes := #[] }] 33 0 #[] #[])
  fields := #[]
  methods := #[k0m0]
  instanceTypes := #[]
  staticTypes := #[]
  resolved := Array.replicate 124 none
  statics := none }

def pool1 : Array CpInfo := pool [(2, .class_ 4), (1, u "java/lang/Object"), (0, u "<init>"), (0, u "()V"), (0, .fieldref 8 9), (0, .class_ 10), (0, .nameAndType 11 12), (0, u "com/example/turnleaf/turnleaf/page/Direction"), (0, u "ASCENDING"), (0, u "Lcom/example/turnleaf/turnleaf/page/Direction;"), (0, .fieldref 8 14), (0, .nameAndType 15 12), (0, u "DESCENDING"), (0, .methodref 17 18), (0, .class_ 19), (0, .nameAndType 20 21), (0, u "com/example/turnleaf/turnleaf/page/Nulls"), (0, u "largestIn"), (0, u "(Lcom/example/turnleaf/turnleaf/page/Direction;)Lcom/example/turnleaf/turnleaf/page/Nulls;"), (0, .fieldref 17 23), (0, .nameAndType 24 25), (0, u "LAST"), (0, u "Lcom/example/turnleaf/turnleaf/page/Nulls;"), (0, .class_ 27), (0, u "com/example/turnleaf/turnleaf/page/NullsLargestInPinLaw"), (2, u "law"), (0, u "(I)Z")] 3

def k1m0 : Method := { name := "<init>", desc := "()V", sig := { parameters := [], returnType := none }, accessFlags := 1, code := none }
def k1c1 : Code := { maxStack := 2, maxLocals := 5, code := code, exceptionTable := #[], attributes := #[] }
def k1m1 : Method := { name := "law", desc := "(I)Z", sig := { parameters := [.int], returnType := some .boolean }, accessFlags := 9, code := some k1c1 }
/-- com/example/turnleaf/turnleaf/page/NullsLargestInPinLaw -/
def k1 : Class := { plain "com/example/turnleaf/turnleaf/page/NullsLargestInPinLaw" (some 0) with
  accessFlags := 49
  interfaces := #[]
  cf := some (fileOf pool1 26 #[] #[{ accessFlags := 1, nameIndex := 5, descriptorIndex := 6, attributes := #[] }, { accessFlags := 9, nameIndex := 30, descriptorIndex := 31, attributes := #[] }] 49 2 #[] #[])
  fields := #[]
  methods := #[k1m0, k1m1]
  instanceTypes := #[]
  staticTypes := #[]
  resolved := Array.replicate 35 none
  statics := none }

def pool2 : Array CpInfo := pool [(1, .class_ 2), (0, u "java/lang/constant/Constable"), (0, .class_ 4), (0, u "java/lang/Object")] 6

/-- java/lang/constant/Constable -/
def k2 : Class := { plain "java/lang/constant/Constable" (some 0) with
  accessFlags := 1537
  interfaces := #[]
  cf := some (fileOf pool2 1 #[] #[] 1537 3 #[] #[])
  fields := #[]
  methods := #[]
  instanceTypes := #[]
  staticTypes := #[]
  resolved := Array.replicate 11 none
  statics := none }

def pool3 : Array CpInfo := pool [(1, .class_ 2), (0, u "java/lang/Comparable"), (0, .class_ 4), (0, u "java/lang/Object")] 7

/-- java/lang/Comparable -/
def k3 : Class := { plain "java/lang/Comparable" (some 0) with
  accessFlags := 1537
  interfaces := #[]
  cf := some (fileOf pool3 1 #[] #[] 1537 3 #[] #[])
  fields := #[]
  methods := #[]
  instanceTypes := #[]
  staticTypes := #[]
  resolved := Array.replicate 12 none
  statics := none }

def pool4 : Array CpInfo := pool [(1, .class_ 2), (0, u "java/io/Serializable"), (0, .class_ 4), (0, u "java/lang/Object")] 2

/-- java/io/Serializable -/
def k4 : Class := { plain "java/io/Serializable" (some 0) with
  accessFlags := 1537
  interfaces := #[]
  cf := some (fileOf pool4 1 #[] #[] 1537 3 #[] #[])
  fields := #[]
  methods := #[]
  instanceTypes := #[]
  staticTypes := #[]
  resolved := Array.replicate 7 none
  statics := none }

def pool5 : Array CpInfo := pool [(2, .class_ 4), (1, u "java/lang/Enum"), (0, u "name"), (0, u "Ljava/lang/String;"), (0, .fieldref 2 8), (0, .nameAndType 9 10), (0, u "ordinal"), (0, u "I"), (1, .class_ 14), (1, u "java/lang/Object"), (4, u "hash"), (86, .class_ 108), (1, u "java/lang/Enum$EnumDesc"), (2, .class_ 112), (0, u "java/lang/constant/Constable"), (0, .class_ 114), (0, u "java/lang/Comparable"), (0, .class_ 116), (0, u "java/io/Serializable"), (9, u "()I")] 77

def k5c0 : Code := { maxStack := 1, maxLocals := 1, code := jdk_37_method_2_code, exceptionTable := #[], attributes := #[] }
def k5m0 : Method := { name := "ordinal", desc := "()I", sig := { parameters := [], returnType := some .int }, accessFlags := 17, code := some k5c0 }
/-- java/lang/Enum -/
def k5 : Class := { plain "java/lang/Enum" (some 0) with
  accessFlags := 1057
  interfaces := #[2, 3, 4]
  cf := some (fileOf pool5 2 #[.nestMembers #[106]] #[{ accessFlags := 17, nameIndex := 9, descriptorIndex := 126, attributes := #[] }] 1057 12 #[111, 113, 115] #[{ accessFlags := 18, nameIndex := 5, descriptorIndex := 6, attributes := #[] }, { accessFlags := 18, nameIndex := 9, descriptorIndex := 10, attributes := #[] }, { accessFlags := 2, nameIndex := 19, descriptorIndex := 10, attributes := #[] }])
  fields := #[{ name := "name", type := (.object "java/lang/String"), accessFlags := 18, slot := 0, constantValue := 0 }, { name := "ordinal", type := .int, accessFlags := 18, slot := 1, constantValue := 0 }, { name := "hash", type := .int, accessFlags := 2, slot := 2, constantValue := 0 }]
  methods := #[k5m0]
  instanceTypes := #[(.object "java/lang/String"), .int, .int]
  staticTypes := #[]
  resolved := Array.replicate 204 none
  statics := none }

def pool6 : Array CpInfo := pool [(1, .class_ 2), (0, u "com/example/turnleaf/turnleaf/page/Direction"), (2, u "ASCENDING"), (0, u "Lcom/example/turnleaf/turnleaf/page/Direction;"), (2, u "DESCENDING"), (2, u "$VALUES"), (0, u "[Lcom/example/turnleaf/turnleaf/page/Direction;"), (6, .class_ 22), (1, u "java/lang/Enum")] 24

/-- com/example/turnleaf/turnleaf/page/Direction -/
def k6 : Class := { plain "com/example/turnleaf/turnleaf/page/Direction" (some 5) with
  accessFlags := 16433
  interfaces := #[]
  cf := some (fileOf pool6 1 #[] #[] 16433 20 #[] #[{ accessFlags := 16409, nameIndex := 5, descriptorIndex := 6, attributes := #[] }, { accessFlags := 16409, nameIndex := 9, descriptorIndex := 6, attributes := #[] }, { accessFlags := 4122, nameIndex := 12, descriptorIndex := 13, attributes := #[] }])
  fields := #[{ name := "ASCENDING", type := (.object "com/example/turnleaf/turnleaf/page/Direction"), accessFlags := 16409, slot := 0, constantValue := 0 }, { name := "DESCENDING", type := (.object "com/example/turnleaf/turnleaf/page/Direction"), accessFlags := 16409, slot := 1, constantValue := 0 }, { name := "$VALUES", type := (.array (.object "com/example/turnleaf/turnleaf/page/Direction")), accessFlags := 4122, slot := 2, constantValue := 0 }]
  methods := #[]
  instanceTypes := #[(.object "java/lang/String"), .int, .int]
  staticTypes := #[(.object "com/example/turnleaf/turnleaf/page/Direction"), (.object "com/example/turnleaf/turnleaf/page/Direction"), (.array (.object "com/example/turnleaf/turnleaf/page/Direction"))]
  resolved := Array.replicate 47 none
  statics := some 0 }

def pool7 : Array CpInfo := pool [(1, .class_ 2), (0, u "com/example/turnleaf/turnleaf/page/Nulls"), (0, .fieldref 1 4), (0, .nameAndType 5 6), (0, u "FIRST"), (0, u "Lcom/example/turnleaf/turnleaf/page/Nulls;"), (0, .fieldref 1 8), (0, .nameAndType 9 6), (0, u "LAST"), (2, u "$VALUES"), (0, u "[Lcom/example/turnleaf/turnleaf/page/Nulls;"), (6, .class_ 22), (1, u "java/lang/Enum"), (6, .fieldref 30 31), (0, .class_ 32), (0, .nameAndType 33 34), (0, u "com/example/turnleaf/turnleaf/page/Nulls$1"), (0, u "$SwitchMap$com$example$turnleaf$turnleaf$page$Direction"), (0, u "[I"), (0, .methodref 36 37), (0, .class_ 38), (0, .nameAndType 39 40), (0, u "com/example/turnleaf/turnleaf/page/Direction"), (0, u "ordinal"), (0, u "()I"), (19, u "largestIn"), (0, u "(Lcom/example/turnleaf/turnleaf/page/Direction;)Lcom/example/turnleaf/turnleaf/page/Nulls;")] 7

def k7c0 : Code := { maxStack := 4, maxLocals := 1, code := prog_13_method_4_code, exceptionTable := #[], attributes := #[] }
def k7m0 : Method := { name := "largestIn", desc := "(Lcom/example/turnleaf/turnleaf/page/Direction;)Lcom/example/turnleaf/turnleaf/page/Nulls;", sig := { parameters := [(.object "com/example/turnleaf/turnleaf/page/Direction")], returnType := some (.object "com/example/turnleaf/turnleaf/page/Nulls") }, accessFlags := 8, code := some k7c0 }
/-- com/example/turnleaf/turnleaf/page/Nulls -/
def k7 : Class := { plain "com/example/turnleaf/turnleaf/page/Nulls" (some 5) with
  accessFlags := 16433
  interfaces := #[]
  cf := some (fileOf pool7 1 #[.nestMembers #[30]] #[{ accessFlags := 8, nameIndex := 60, descriptorIndex := 61, attributes := #[] }] 16433 20 #[] #[{ accessFlags := 16409, nameIndex := 5, descriptorIndex := 6, attributes := #[] }, { accessFlags := 16409, nameIndex := 9, descriptorIndex := 6, attributes := #[] }, { accessFlags := 4122, nameIndex := 12, descriptorIndex := 13, attributes := #[] }])
  fields := #[{ name := "FIRST", type := (.object "com/example/turnleaf/turnleaf/page/Nulls"), accessFlags := 16409, slot := 0, constantValue := 0 }, { name := "LAST", type := (.object "com/example/turnleaf/turnleaf/page/Nulls"), accessFlags := 16409, slot := 1, constantValue := 0 }, { name := "$VALUES", type := (.array (.object "com/example/turnleaf/turnleaf/page/Nulls")), accessFlags := 4122, slot := 2, constantValue := 0 }]
  methods := #[k7m0]
  instanceTypes := #[(.object "java/lang/String"), .int, .int]
  staticTypes := #[(.object "com/example/turnleaf/turnleaf/page/Nulls"), (.object "com/example/turnleaf/turnleaf/page/Nulls"), (.array (.object "com/example/turnleaf/turnleaf/page/Nulls"))]
  resolved := Array.replicate 69 none
  statics := some 1 }

def pool8 : Array CpInfo := pool [(8, .class_ 10), (1, u "com/example/turnleaf/turnleaf/page/Nulls$1"), (0, u "$SwitchMap$com$example$turnleaf$turnleaf$page$Direction"), (0, u "[I"), (13, .class_ 27), (0, u "java/lang/Object"), (8, .class_ 37), (0, u "com/example/turnleaf/turnleaf/page/Nulls")] 2

/-- com/example/turnleaf/turnleaf/page/Nulls$1 -/
def k8 : Class := { plain "com/example/turnleaf/turnleaf/page/Nulls$1" (some 0) with
  accessFlags := 4128
  interfaces := #[]
  cf := some (fileOf pool8 8 #[.nestHost 36] #[] 4128 26 #[] #[{ accessFlags := 4120, nameIndex := 11, descriptorIndex := 12, attributes := #[] }])
  fields := #[{ name := "$SwitchMap$com$example$turnleaf$turnleaf$page$Direction", type := (.array .int), accessFlags := 4120, slot := 0, constantValue := 0 }]
  methods := #[]
  instanceTypes := #[]
  staticTypes := #[(.array .int)]
  resolved := Array.replicate 40 none
  statics := some 2 }

def pool9 : Array CpInfo := pool [(1, u "java/lang/Cloneable"), (0, .class_ 1), (0, u "java/lang/Object"), (0, .class_ 3)] 3

/-- java/lang/Cloneable -/
def k9 : Class := { plain "java/lang/Cloneable" (some 0) with
  accessFlags := 1537
  interfaces := #[]
  cf := some (fileOf pool9 2 #[] #[] 1537 4 #[] #[])
  fields := #[]
  methods := #[]
  instanceTypes := #[]
  staticTypes := #[]
  resolved := Array.replicate 8 none
  statics := none }

/-- the primitive byte -/
def k10 : Class := { plain "byte" none with kind := .primitive 'B', accessFlags := 0x411 }
/-- [B -/
def k11 : Class := { plain "[B" (some 0) with kind := .array 10 .byte, interfaces := #[9, 4], accessFlags := 1041 }

/-- the primitive int -/
def k12 : Class := { plain "int" none with kind := .primitive 'I', accessFlags := 0x411 }
/-- [I -/
def k13 : Class := { plain "[I" (some 0) with kind := .array 12 .int, interfaces := #[9, 4], accessFlags := 1041 }

def heap : Heap := #[{ cls := 6, slots := #[.ref 3, .ref 5, .null], vm := .statics 6 },
  { cls := 7, slots := #[.ref 6, .ref 4, .null], vm := .statics 7 },
  { cls := 8, slots := #[.ref 7], vm := .statics 8 },
  { cls := 6, slots := #[.null, .int 0, .int 0], vm := .none },
  { cls := 7, slots := #[.null, .int 1, .int 0], vm := .none },
  { cls := 6, slots := #[.null, .int 1, .int 0], vm := .none },
  { cls := 7, slots := #[.null, .int 0, .int 0], vm := .none },
  { cls := 13, slots := #[.int 1, .int 2], vm := .none }]
def classes : Array Class := #[k0, k1, k2, k3, k4, k5, k6, k7, k8, k9, k10, k11, k12, k13]
def interned : List (Array UInt16 × Addr) := []
def slotsUsed : Nat := 21
def theMethod : MethodId := ⟨1, 1⟩
def args0 : Array Value := #[.int 5]
def aboutOver (below : List Frame) : State where
  vm := { classes := classes, interned := interned.toArray }
  heap := heap
  slotsUsed := slotsUsed
  threads := #[{ frames := .invoking theMethod args0 :: below }]
def below0 : List Frame := [.native { method := ⟨0, 0⟩, args := #[] }]
def about1 : State := aboutOver below0
def p0 : Program := .bare "" "" ""
def e0 : Env := launch0.env 0 0 0
theorem w_frames : about1.frames = Frame.invoking theMethod args0 :: below0 := rfl
set_option maxRecDepth 65536 in
theorem w_args : argsFit about1.vm theMethod args0 = true := by decide +kernel
set_option maxRecDepth 65536 in
theorem w_heap : heapFits about1 = true := by decide +kernel
set_option maxRecDepth 65536 in
theorem w_runnable : about1.curStatus? = some .runnable := by decide +kernel
set_option maxRecDepth 65536 in
theorem w_alone : about1.alone = true := by decide +kernel
set_option maxRecDepth 65536 in
theorem w_named : about1.methodNamed? x = some theMethod := by decide +kernel
set_option maxRecDepth 65536 in
theorem w_hears : about1.hears theMethod below0 = true := by decide +kernel
set_option maxRecDepth 65536 in
theorem w_ripe : about1.ripe theMethod args0 below0 = true := by decide +kernel
theorem w_running : about1.status = .running := rfl
set_option maxRecDepth 65536 in
theorem w_room : about1.hasRoom e0.platform room_1 = true :=
  launch0.hasRoom_least _ room_1 (by decide +kernel) (by decide +kernel) (by decide +kernel) (by decide +kernel) (by decide +kernel) (by decide +kernel)
theorem allAtoms_all (ts : List Jvm.Cond) (a : Array Jvm.Value) (st : Jvm.State) : (allAtoms ts).before a st = ts.all (fun c => c.before a st) := by
  induction ts with
  | nil => rfl
  | cons c t ih =>
    show (Jvm.Cond.and c (allAtoms t)).before a st = _
    rw [Jvm.Cond.before_and, ih, List.all_cons]
def words1 : List Jvm.Cond := Jvm.Cond.code x code maxLocals ret :: tables_1
/-- a 'code' word, met by the world's own term for the bytes: nothing is compared byte by byte -/
theorem code_word {y : MethodName} {bytes : ByteArray} {mx : Nat} {rt : Option FieldType} {a : Array Value} {s : State} {m : MethodId} {meth : Method} {c : Code} (h1 : s.methodNamed? y = some m) (h2 : s.vm.method? m = some meth) (h3 : meth.code = some c) (h4 : c.code = bytes)
    (h5 : (c.maxLocals == mx && c.exceptionTable.isEmpty && decide (c.maxStack ≤ mostOperands) && decide (meth.sig.returnType = rt) && !meth.locks && decide (parseMethodDescriptor y.desc = some meth.sig)) = true) : (Jvm.Cond.code y bytes mx rt).before a s = true := by
  simp only [Bool.and_eq_true, beq_iff_eq, Bool.not_eq_true', decide_eq_true_eq] at h5
  obtain ⟨⟨⟨⟨⟨g1, g2⟩, g3⟩, g4⟩, g5⟩, g6⟩ := h5
  simp [Cond.before, Cond.holds, Cond.value, h1, h2, h3, h4, g1, g2, g3, g4, g5, g6]
def isCode : Jvm.Cond → Bool
  | .code _ _ _ _ => true
  | _ => false
theorem all_split {L : List Jvm.Cond} {P : Jvm.Cond → Bool} (h1 : L.all (fun c => isCode c || P c) = true) (h2 : ∀ c ∈ L.filter isCode, P c = true) : L.all P = true := by
  refine List.all_eq_true.mpr fun c hc => ?_
  have h := List.all_eq_true.mp h1 c hc
  rcases Bool.eq_false_or_eq_true (isCode c) with hi | hi
  · exact h2 c (List.mem_filter.mpr ⟨hc, hi⟩)
  · simpa [hi] using h
set_option maxRecDepth 65536 in
theorem w_c0 : (Jvm.Cond.code x code maxLocals ret).before args0 about1 = true := code_word (m := ⟨1, 1⟩) (meth := k1m1) (c := k1c1) (by decide +kernel) rfl rfl rfl (by decide +kernel)
set_option maxRecDepth 65536 in
theorem w_c1 : (Jvm.Cond.code ({ cls := "com/example/turnleaf/turnleaf/page/Nulls", name := "largestIn", desc := "(Lcom/example/turnleaf/turnleaf/page/Direction;)Lcom/example/turnleaf/turnleaf/page/Nulls;" } : Jvm.MethodName) prog_13_method_4_code (1 : Nat) (Option.some (Jvm.ClassFile.FieldType.object "com/example/turnleaf/turnleaf/page/Nulls"))).before args0 about1 = true := code_word (m := ⟨7, 0⟩) (meth := k7m0) (c := k7c0) (by decide +kernel) rfl rfl rfl (by decide +kernel)
set_option maxRecDepth 65536 in
theorem w_c2 : (Jvm.Cond.code ({ cls := "java/lang/Enum", name := "ordinal", desc := "()I" } : Jvm.MethodName) jdk_37_method_2_code (1 : Nat) (Option.some Jvm.ClassFile.FieldType.int)).before args0 about1 = true := code_word (m := ⟨5, 0⟩) (meth := k5m0) (c := k5c0) (by decide +kernel) rfl rfl rfl (by decide +kernel)
def codes1 : List Jvm.Cond := [Jvm.Cond.code x code maxLocals ret, Jvm.Cond.code ({ cls := "com/example/turnleaf/turnleaf/page/Nulls", name := "largestIn", desc := "(Lcom/example/turnleaf/turnleaf/page/Direction;)Lcom/example/turnleaf/turnleaf/page/Nulls;" } : Jvm.MethodName) prog_13_method_4_code (1 : Nat) (Option.some (Jvm.ClassFile.FieldType.object "com/example/turnleaf/turnleaf/page/Nulls")), Jvm.Cond.code ({ cls := "java/lang/Enum", name := "ordinal", desc := "()I" } : Jvm.MethodName) jdk_37_method_2_code (1 : Nat) (Option.some Jvm.ClassFile.FieldType.int)]
set_option maxRecDepth 65536 in
theorem codes_eq : words1.filter isCode = codes1 := rfl
theorem w_codes : ∀ c ∈ words1.filter isCode, c.before args0 about1 = true := by
  rw [codes_eq]
  intro c hc
  simp only [codes1, List.mem_cons, List.not_mem_nil, or_false] at hc
  rcases hc with rfl | rfl | rfl
  · exact w_c0
  · exact w_c1
  · exact w_c2
set_option maxRecDepth 65536 in
theorem w_t1 : (words1.take 24).all (fun c => isCode c || c.before args0 about1) = true := by decide +kernel
set_option maxRecDepth 65536 in
theorem w_t2 : (words1.drop 24).all (fun c => isCode c || c.before args0 about1) = true := by decide +kernel
theorem w_tables : (allAtoms (Jvm.Cond.code x code maxLocals ret :: tables_1)).before args0 about1 = true := by
  rw [allAtoms_all]
  show words1.all (fun c => c.before args0 about1) = true
  refine all_split ?_ w_codes
  rw [← List.take_append_drop 24 words1, List.all_append, w_t1, w_t2]
  rfl
set_option maxRecDepth 65536 in
theorem w_case : (Jvm.Cond.and given_1 narrow_1).before args0 about1 = true := by decide +kernel
theorem w_applies : (headSpec (Jvm.Cond.code x code maxLocals ret :: tables_1) room_1).applies x e0.platform about1 = true :=
  (Spec.applies_iff w_frames).mpr ⟨w_running, w_runnable, w_alone, w_named, w_hears, w_ripe, w_room, w_tables⟩
theorem atStart : AtStart classFile x code maxLocals ret World_1 tables_1 room_1 Calls_1 rest_1 Pre_1 launch0 p0 e0 about1 theMethod args0 below0 :=
  ⟨lists_1, trivial, launch0.admits_env _ _ _, launch0.least_env, fairChoices_fair.cas, fairChoices_fair.clock, w_frames, w_args, w_heap, w_applies, trivial, trivial, w_case⟩
end start1
theorem witness_1 : WitnessClaimed_1 := ⟨start1.p0, start1.e0, start1.about1, start1.theMethod, start1.args0, start1.below0, start1.atStart⟩
end Jvm.Pilot.@@N@@
