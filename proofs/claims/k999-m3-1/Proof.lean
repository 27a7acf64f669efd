import JvmDerived
import JvmDerived.Pilot.@@N@@Statement
import JvmDerived.Pilot.@@N@@Code
set_option linter.unusedVariables false
set_option linter.unusedSimpArgs false
namespace Jvm.Pilot.@@N@@
open Jvm Jvm.ClassFile Sem Op Lib Jvm.Free Jvm.Stand Jvm.LawKit Jvm.RoadKit Bundle Jvm.Pilot.@@N@@.Jvm.D
/-! own_Done: from frame F on top of T the run comes to its end, and R holds there -/
def own_Done (tb : Tables) (e : Env) (below : List Frame) (R : Outcome → State → Prop) (T : State) (F : JFrame) : Prop :=
  ∃ s₂ o, Steps tb e below (T.setTop F) s₂ ∧ s₂.status = .running ∧ Ended s₂ below o ∧ R o s₂
def own_R (Qq : Option Value → Heap → List Loc → Prop) (s : State) (C S : Nat) : Outcome → State → Prop :=
  fun o U => ∃ v L, o = .returned v ∧ Qq v U.heap L ∧ FrameEnd s o U L C S
def own_RW (Qq : Option Value → Heap → List Loc → Prop) (s : State) (C S : Nat) : Outcome → State → Prop :=
  fun o U => ∃ v L, o = .returned v ∧ Qq v U.heap L ∧ ReturnedEndW s o U L C S
theorem own_st {tb : Tables} {e : Env} {below : List Frame} {R : Outcome → State → Prop} {T T' : State} {F F' : JFrame} (k : ∀ t, Steps tb e below (T'.setTop F') t → Steps tb e below (T.setTop F) t) (d : own_Done tb e below R T' F') : own_Done tb e below R T F := by
  obtain ⟨a, o, h1, h2⟩ := d
  exact ⟨a, o, k a h1, h2⟩
theorem own_tr {tb : Tables} {e : Env} {below : List Frame} {R : Outcome → State → Prop} {T T' : State} {F F' : JFrame} (k : Steps tb e below (T.setTop F) (T'.setTop F')) (d : own_Done tb e below R T' F') : own_Done tb e below R T F := by
  obtain ⟨a, o, h1, h2⟩ := d
  exact ⟨a, o, k.trans h1, h2⟩
section Own
variable {p : Program} {l : Launch} {e : Env} {Rm : Room} {s : State} {m : MethodId} {args : Array Value} {below : List Frame} {meth : Method} {c : Code} {T : State} {locs : List Loc} {cells slots : Nat}
theorem own_ret (X : Stand p l e Rm s m args below meth c T locs cells slots) (hx : p.tables.exec = Jvm.exec) {pc : Nat} {Ls : Array Slot} {w : Value} {t : FieldType} {i : Instr} {rest : List Value} (hret : meth.sig.returnType = some t) (hn : narrow t w = w)
    (hi : (i = .ireturn ∧ (t = .int ∨ t = .boolean ∨ t = .byte ∨ t = .char ∨ t = .short) ∧ ∃ z, w = .int z) ∨ (i = .lreturn ∧ t = .long ∧ ∃ z, w = .long z) ∨ (i = .dreturn ∧ t = .double ∧ ∃ z, w = .double z) ∨ (i = .freturn ∧ t = .float ∧ ∃ z, w = .float z) ∨ (i = .areturn ∧ t.isReference = true ∧ w.isRef = true))
    (hd : decode c.code pc = .ok (i, 1)) (hlk : meth.locks = false) {Qq : Option Value → Heap → List Loc → Prop} {C S : Nat} (hQ : Qq (some w) T.heap locs) (hc : cells ≤ C) (hs : slots ≤ S) :
    own_Done p.tables e below (own_R Qq s C S) T (mkF m pc Ls (w :: rest)) := by
  obtain ⟨fs, hr, hrun, hended, hW, hsame⟩ := X.leave (v := some w) (fun h => by rw [hret] at h; cases h) hlk
  exact ⟨_, _, retOut X hx hret hn hi hd hr, hrun, hended, _, _, rfl, hQ, ⟨_, rfl⟩, hW, hsame.mono hc hs⟩
theorem own_retI (X : Stand p l e Rm s m args below meth c T locs cells slots) (hx : p.tables.exec = Jvm.exec) {pc : Nat} {Ls : Array Slot} {z : Int32} {rest : List Value} (hret : meth.sig.returnType = some .int) (hd : decode c.code pc = .ok (.ireturn, 1)) (hlk : meth.locks = false)
    {Qq : Option Value → Heap → List Loc → Prop} {C S : Nat} (hQ : Qq (some (.int z)) T.heap locs) (hc : cells ≤ C) (hs : slots ≤ S) : own_Done p.tables e below (own_R Qq s C S) T (mkF m pc Ls (.int z :: rest)) :=
  own_ret X hx hret rfl (Or.inl ⟨rfl, Or.inl rfl, _, rfl⟩) hd hlk hQ hc hs
theorem own_retN (X : Stand p l e Rm s m args below meth c T locs cells slots) (hx : p.tables.exec = Jvm.exec) {pc : Nat} {Ls : Array Slot} {z : Int32} {t : FieldType} {rest : List Value} (hret : meth.sig.returnType = some t) (ht : t = .boolean ∨ t = .byte ∨ t = .char ∨ t = .short) (hn : narrow t (.int z) = .int z) (hd : decode c.code pc = .ok (.ireturn, 1)) (hlk : meth.locks = false)
    {Qq : Option Value → Heap → List Loc → Prop} {C S : Nat} (hQ : Qq (some (.int z)) T.heap locs) (hc : cells ≤ C) (hs : slots ≤ S) : own_Done p.tables e below (own_R Qq s C S) T (mkF m pc Ls (.int z :: rest)) :=
  own_ret X hx hret hn (Or.inl ⟨rfl, Or.inr ht, _, rfl⟩) hd hlk hQ hc hs
theorem own_retJ (X : Stand p l e Rm s m args below meth c T locs cells slots) (hx : p.tables.exec = Jvm.exec) {pc : Nat} {Ls : Array Slot} {z : Int64} {rest : List Value} (hret : meth.sig.returnType = some .long) (hd : decode c.code pc = .ok (.lreturn, 1)) (hlk : meth.locks = false)
    {Qq : Option Value → Heap → List Loc → Prop} {C S : Nat} (hQ : Qq (some (.long z)) T.heap locs) (hc : cells ≤ C) (hs : slots ≤ S) : own_Done p.tables e below (own_R Qq s C S) T (mkF m pc Ls (.long z :: rest)) :=
  own_ret X hx hret rfl (Or.inr (Or.inl ⟨rfl, rfl, _, rfl⟩)) hd hlk hQ hc hs
theorem own_narrow {t : FieldType} {v : Value} (h : v.isRef = true) : narrow t v = v := by
  rcases ref_cases h with rfl | ⟨a, rfl⟩ <;> cases t <;> rfl
theorem own_retA (X : Stand p l e Rm s m args below meth c T locs cells slots) (hx : p.tables.exec = Jvm.exec) {pc : Nat} {Ls : Array Slot} {w : Value} {t : FieldType} {rest : List Value} (hret : meth.sig.returnType = some t) (ht : t.isReference = true) (hw : w.isRef = true) (hd : decode c.code pc = .ok (.areturn, 1)) (hlk : meth.locks = false)
    {Qq : Option Value → Heap → List Loc → Prop} {C S : Nat} (hQ : Qq (some w) T.heap locs) (hc : cells ≤ C) (hs : slots ≤ S) : own_Done p.tables e below (own_R Qq s C S) T (mkF m pc Ls (w :: rest)) :=
  own_ret X hx hret (own_narrow hw) (Or.inr (Or.inr (Or.inr (Or.inr ⟨rfl, ht, hw⟩)))) hd hlk hQ hc hs
theorem own_retV (X : Stand p l e Rm s m args below meth c T locs cells slots) (hx : p.tables.exec = Jvm.exec) {pc : Nat} {Ls : Array Slot} (hret : meth.sig.returnType = none) (hd : decode c.code pc = .ok (.return_, 1)) (hlk : meth.locks = false)
    {Qq : Option Value → Heap → List Loc → Prop} {C S : Nat} (hQ : Qq none T.heap locs) (hc : cells ≤ C) (hs : slots ≤ S) : own_Done p.tables e below (own_R Qq s C S) T (mkF m pc Ls []) := by
  obtain ⟨fs, hr, hrun, hended, hW, hsame⟩ := X.leave (v := none) (fun _ => rfl) hlk
  exact ⟨_, _, X.returnOut hx hret hd hr, hrun, hended, _, _, rfl, hQ, ⟨_, rfl⟩, hW, hsame.mono hc hs⟩
theorem own_retW {vm₁ : Vm} (X : Stand p l e Rm (s.setVm vm₁) m args below meth c T locs cells slots) (hx : p.tables.exec = Jvm.exec) {pc : Nat} {Ls : Array Slot} {w : Value} {t : FieldType} {i : Instr} {rest : List Value} (hret : meth.sig.returnType = some t) (hn : narrow t w = w)
    (hi : (i = .ireturn ∧ (t = .int ∨ t = .boolean ∨ t = .byte ∨ t = .char ∨ t = .short) ∧ ∃ z, w = .int z) ∨ (i = .lreturn ∧ t = .long ∧ ∃ z, w = .long z) ∨ (i = .dreturn ∧ t = .double ∧ ∃ z, w = .double z) ∨ (i = .freturn ∧ t = .float ∧ ∃ z, w = .float z) ∨ (i = .areturn ∧ t.isReference = true ∧ w.isRef = true))
    {ks : Nat} (hS : s.Since vm₁ ks) (hk : ks ≤ T.heap.size) (hd : decode c.code pc = .ok (i, 1)) (hlk : meth.locks = false) {Qq : Option Value → Heap → List Loc → Prop} {C S : Nat} (hQ : Qq (some w) T.heap locs) (hc : cells ≤ C) (hs : slots ≤ S) :
    own_Done p.tables e below (own_RW Qq s C S) T (mkF m pc Ls (w :: rest)) := by
  obtain ⟨fs, hr, hrun, hended, hW⟩ := X.leaveW hS hk (v := some w) (fun h => by rw [hret] at h; cases h) hlk
  exact ⟨_, _, retOut X hx hret hn hi hd hr, hrun, hended, _, _, rfl, hQ, hW.1, hW.2.1, hW.2.2.1, hW.2.2.2.mono hc hs⟩
theorem own_retIW {vm₁ : Vm} (X : Stand p l e Rm (s.setVm vm₁) m args below meth c T locs cells slots) (hx : p.tables.exec = Jvm.exec) {pc : Nat} {Ls : Array Slot} {z : Int32} {rest : List Value} (hret : meth.sig.returnType = some .int) {ks : Nat} (hS : s.Since vm₁ ks) (hk : ks ≤ T.heap.size) (hd : decode c.code pc = .ok (.ireturn, 1)) (hlk : meth.locks = false)
    {Qq : Option Value → Heap → List Loc → Prop} {C S : Nat} (hQ : Qq (some (.int z)) T.heap locs) (hc : cells ≤ C) (hs : slots ≤ S) : own_Done p.tables e below (own_RW Qq s C S) T (mkF m pc Ls (.int z :: rest)) :=
  own_retW X hx hret rfl (Or.inl ⟨rfl, Or.inl rfl, _, rfl⟩) hS hk hd hlk hQ hc hs
theorem own_retNW {vm₁ : Vm} (X : Stand p l e Rm (s.setVm vm₁) m args below meth c T locs cells slots) (hx : p.tables.exec = Jvm.exec) {pc : Nat} {Ls : Array Slot} {z : Int32} {t : FieldType} {rest : List Value} (hret : meth.sig.returnType = some t) (ht : t = .boolean ∨ t = .byte ∨ t = .char ∨ t = .short) (hn : narrow t (.int z) = .int z) {ks : Nat} (hS : s.Since vm₁ ks) (hk : ks ≤ T.heap.size) (hd : decode c.code pc = .ok (.ireturn, 1)) (hlk : meth.locks = false)
    {Qq : Option Value → Heap → List Loc → Prop} {C S : Nat} (hQ : Qq (some (.int z)) T.heap locs) (hc : cells ≤ C) (hs : slots ≤ S) : own_Done p.tables e below (own_RW Qq s C S) T (mkF m pc Ls (.int z :: rest)) :=
  own_retW X hx hret hn (Or.inl ⟨rfl, Or.inr ht, _, rfl⟩) hS hk hd hlk hQ hc hs
theorem own_retJW {vm₁ : Vm} (X : Stand p l e Rm (s.setVm vm₁) m args below meth c T locs cells slots) (hx : p.tables.exec = Jvm.exec) {pc : Nat} {Ls : Array Slot} {z : Int64} {rest : List Value} (hret : meth.sig.returnType = some .long) {ks : Nat} (hS : s.Since vm₁ ks) (hk : ks ≤ T.heap.size) (hd : decode c.code pc = .ok (.lreturn, 1)) (hlk : meth.locks = false)
    {Qq : Option Value → Heap → List Loc → Prop} {C S : Nat} (hQ : Qq (some (.long z)) T.heap locs) (hc : cells ≤ C) (hs : slots ≤ S) : own_Done p.tables e below (own_RW Qq s C S) T (mkF m pc Ls (.long z :: rest)) :=
  own_retW X hx hret rfl (Or.inr (Or.inl ⟨rfl, rfl, _, rfl⟩)) hS hk hd hlk hQ hc hs
theorem own_mono (X : Stand p l e Rm s m args below meth c T locs cells slots) {C S : Nat} (hc : cells ≤ C) (hs : slots ≤ S) : Stand p l e Rm s m args below meth c T locs C S :=
  { X with same := X.same.mono hc hs }
end Own
theorem own_cat1 {v : Value} (h : v.isRef = true) : v.category = 1 := by rcases ref_cases h with rfl | ⟨a, rfl⟩ <;> rfl
theorem own_fits {t : FieldType} {v : Value} (ht : t.isReference = true) (h : v.isRef = true) : fits t v = true := by rcases ref_cases h with rfl | ⟨a, rfl⟩ <;> cases t <;> first | rfl | cases ht
theorem own_nb {z : Int32} (h : z = 0 ∨ z = 1) : narrow .boolean (.int z) = .int z := by rcases h with rfl | rfl <;> rfl
theorem own_fb {z : Int32} (h : z = 0 ∨ z = 1) : fits .boolean (.int z) = true := by rcases h with rfl | rfl <;> rfl
theorem own_ext_refl (h : Heap) : Ext h h := ⟨Nat.le_refl _, fun _ _ q => q⟩
theorem own_ext_trans {h h' h2 : Heap} (A : Ext h h') (B : Ext h' h2) : Ext h h2 := ⟨Nat.le_trans A.1 B.1, fun a c q => B.2 a c (A.2 a c q)⟩
theorem own_O_wr {Z : State} {h h' : Heap} {a : Addr} {sl : Nat} {v : Value} (A : Ext Z.heap h) (B : Wr h h' a sl v) (q : Z.heap.size ≤ a) : Ext Z.heap h' := (Old.wr (⟨rfl, A⟩ : Old Z Z.heap.size h) B q).2
theorem own_O_keep {Z : State} {h h' : Heap} {ws : List Addr} (A : Ext Z.heap h) (B : Keep h h' ws) (q : ∀ a ∈ ws, Z.heap.size ≤ a) : Ext Z.heap h' := (Old.keep (⟨rfl, A⟩ : Old Z Z.heap.size h) B q).2
theorem own_eq_int {args : Array Value} {s : State} {t : Term} {k : Int32} (h : (Jvm.Cond.eq t (Term.int k)).value args s none s [] = some true) : t.eval args s none [] s = some (.int k) := by
  obtain ⟨u, v, h1, h2, h3, h4⟩ := cmp_v (Or.inl h)
  have h5 : v = .int k := (Option.some.inj h2).symm
  subst h5
  obtain ⟨z, rfl⟩ := h4
  rw [h1]
  simp only [Jvm.Cond.value, h1, h2, Option.some.injEq, decide_eq_true_eq] at h
  rw [h]
theorem own_fld_int {args : Array Value} {s : State} {t : Term} {C n d : String} {a : Addr} {k : Int32} (ht : t.eval args s none [] s = some (.ref a)) (h : (Jvm.Cond.eq (Term.field t C n d) (Term.int k)).value args s none s [] = some true) : s.fieldOf? a C n d = some (.int k) :=
  (fld_at ht).symm.trans (own_eq_int h)
theorem own_eq_ref {args : Array Value} {s : State} {t u : Term} {a : Addr} (h : (Jvm.Cond.eq t u).value args s none s [] = some true) (hu : u.eval args s none [] s = some (.ref a)) : t.eval args s none [] s = some (.ref a) := by
  obtain ⟨x1, y1, h1, h2, h3, h4⟩ := cmp_v (Or.inl h)
  obtain rfl : y1 = .ref a := Option.some.inj (h2.symm.trans hu)
  have hr : x1.isRef = true := by cases x1 <;> first | rfl | (simp [Kin] at h3; done) | exact h3.1
  have e := gotT (eq_R h1 h2 hr rfl) h
  rw [h1, e]
theorem own_len {args : Array Value} {s : State} {t : Term} {a : Addr} {cl : Cell} {n : Int32} (h : (Term.length t).eval args s none [] s = some (.int n)) (ht : t.eval args s none [] s = some (.ref a)) (hc : s.heap[a]? = some cl) : cl.slots.size < 2 ^ 31 ∧ cl.slots.size.toInt32 = n := by
  obtain ⟨a', cell, e1, e2, e3⟩ := Term.length_spec h
  cases ht.symm.trans e1
  cases hc.symm.trans (State.arrayAt?_spec e2).1
  by_cases q : cl.slots.size < 2 ^ 31
  · exact ⟨q, (Value.int.inj e3).symm⟩
  · simp [Term.eval, ht, e2, q] at h
theorem own_initFor {args : Array Value} {s : State} {C n d : String} (h1 : (Jvm.Cond.initializedFor C n d).before args s = true) (h2 : (Jvm.Cond.laysStatic C n d).before args s = true) : (Jvm.Cond.initialized C).before args s = true := by
  obtain ⟨c, k, i, f, a, cell, q1, q2, -⟩ := Cond.laysStatic_spec h2
  have q3 := Cond.initializedFor_spec q2 h1
  have q4 := State.fieldFound?_class q2
  simp [Cond.before, Cond.holds, Cond.value, q1, q4, q3]
theorem own_ns_root {Z : State} {a0 : Array Value} {Ob K : String} {n : Nat} (w : (Jvm.Cond.noSuperclass Ob).before a0 Z = true) (wk : (Jvm.Cond.instantiable K n).before a0 Z = true) (hn : Ob ≠ K) : NS Z Ob K := by
  obtain ⟨c, k, h1, h2, h3, -, -⟩ := Cond.noSuperclass_spec w
  obtain ⟨t, k2, g1, -⟩ := Cond.instantiable_spec wk
  have ne := ids_ne h1 g1 hn
  refine ⟨c, t, h1, g1, fun fuel => ?_⟩
  cases fuel with
  | zero => rfl
  | succ f => simp [Vm.isSubclassAux, ne, h2, h3]
theorem own_ns_no {Z : State} {a0 : Array Value} {C Sp K : String} {n : Nat} (w : (Jvm.Cond.superclass C Sp).before a0 Z = true) (wk : (Jvm.Cond.instantiable K n).before a0 Z = true) (ns : NS Z C K) (hn : C ≠ K) : ∃ c t, Z.vm.findClass C = some c ∧ Z.vm.findClass K = some t ∧ Z.vm.assignable c t = false := by
  obtain ⟨c, t, h0, g0, n3⟩ := ns
  obtain ⟨p, k, kp, h1, h2, h3, h4, h5, -, h7⟩ := Cond.superclass_spec h0 w
  obtain ⟨t', k', g1, g2, g3, g4, -⟩ := Cond.instantiable_spec wk
  cases g0.symm.trans g1
  have g5 : k'.isInterface = false := by
    simp only [Bool.or_eq_false_iff] at g4
    exact g4.1
  have ne := ids_ne h0 g0 hn
  refine ⟨c, t, h0, g0, ?_⟩
  show Z.vm.assignableAux (255 + 1) c t = false
  simp [Vm.assignableAux, ne, h2, g2, h5, g3, g5, Vm.isSubclass, n3]
theorem own_ext_keep {h h' : Heap} (K : Keep h h' []) : Ext h h' := ⟨K.1, fun a c q => K.2.1 a c q (fun z => nomatch z)⟩
theorem own_sub_at {args : Array Value} {first s : State} {o : Option Outcome} {idx : List Nat} {t u : Term} {v w : Int32} (ha : t.eval args first o idx s = some (.int v)) (hb : u.eval args first o idx s = some (.int w)) : (Term.sub t u).eval args first o idx s = some (.int (v - w)) := by simp [Term.eval, ha, hb]
def own_Bx (Z : State) (h : Heap) (w : Value) (b q : Int32) : Prop := (w = .null ∧ b = 1) ∨ (b = 0 ∧ ∃ r : Addr, w = .ref r ∧ Exa Z h r "java/lang/Integer" ∧ Fld Z h r "java/lang/Integer" "value" "I" (.int q))
theorem own_Bx.ext {Z : State} {h h' : Heap} {w : Value} {b q : Int32} (B : own_Bx Z h w b q) (E : Ext h h') : own_Bx Z h' w b q := by
  rcases B with B | ⟨e, r, rfl, X, F⟩
  · exact Or.inl B
  · exact Or.inr ⟨e, r, rfl, X.ext E, F.ext E⟩
theorem own_Bx.keep {Z : State} {h h' : Heap} {w : Value} {b q : Int32} {a : Addr} {C : String} (B : own_Bx Z h w b q) (K : Keep h h' [a]) (X' : Exa Z h a C) (hn : "java/lang/Integer" ≠ C) : own_Bx Z h' w b q := by
  rcases B with B | ⟨e, r, rfl, X, F⟩
  · exact Or.inl B
  · exact Or.inr ⟨e, r, rfl, X.keep K, F.keep K (ninS (ne_exa X X' hn) nin0)⟩
theorem own_Bx.isRef {Z : State} {h : Heap} {w : Value} {b q : Int32} (B : own_Bx Z h w b q) : w.isRef = true := by
  rcases B with ⟨rfl, -⟩ | ⟨-, r, rfl, -, -⟩ <;> rfl
def own_eqv (b1 x1 b2 x2 : Int32) : Int32 := if b1 = 0 then (if b2 = 0 then (if x1 = x2 then 1 else 0) else 0) else (if b2 = 0 then 0 else 1)
theorem own_eqv_self (b z : Int32) : own_eqv b z b z = 1 := by
  unfold own_eqv
  by_cases h : b = 0 <;> simp [h]
theorem own_fld_uniq {Z : State} {h : Heap} {a : Addr} {C n d : String} {v w : Value} (F : Fld Z h a C n d v) (G : Fld Z h a C n d w) : v = w := by
  by_cases q : v = w
  · exact q
  · exact absurd rfl (F.ne G q)
theorem own_selects_private {args : Array Value} {s : State} {y : MethodName} {n : Nat} (hinst : (Jvm.Cond.instanceMethod y).before args s = true) (hpriv : (Jvm.Cond.privateMethod y).before args s = true) (hi : (Jvm.Cond.instantiable y.cls n).before args s = true) (hy : y.cls ≠ "java/lang/invoke/MethodHandle" ∧ y.cls ≠ "java/lang/invoke/VarHandle") : (Jvm.Cond.selects y.cls y y).before args s = true := by
  obtain ⟨mk, methM, hnamed, hmethM, hstM, habM⟩ := Cond.instanceMethod_spec hinst
  have hc := findClass_of_methodNamed hnamed
  obtain ⟨c, k, g1, g2, g3, g4, -⟩ := Cond.instantiable_spec hi
  cases hc.symm.trans g1
  have hf := State.methodFound?_of_named hnamed hy
  have hs : selectMethod {} s.vm mk.cls mk = .method mk := selectMethod_private hmethM (Cond.privateMethod_at hpriv mk methM hnamed hmethM)
  have g5 : k.isInterface = false := by
    simp only [Bool.or_eq_false_iff] at g4
    exact g4.1
  simp [Cond.before, Cond.holds, Cond.value, hc, hf, hnamed, hs, g2, g5]
def Ctx (Z : State) (a0 : Array Value) (w_BUY : Addr) (w_SELL : Addr) (v_cs : Int32) : Prop := (∀ d ∈ tables_1, d.before a0 Z = true) ∧ Sta Z Z.heap "com/example/tidebook/tidebook/engine/Side" "BUY" "Lcom/example/tidebook/tidebook/engine/Side;" (.ref w_BUY) ∧ Exa Z Z.heap w_BUY "com/example/tidebook/tidebook/engine/Side" ∧ Sta Z Z.heap "com/example/tidebook/tidebook/engine/Side" "SELL" "Lcom/example/tidebook/tidebook/engine/Side;" (.ref w_SELL) ∧ Exa Z Z.heap w_SELL "com/example/tidebook/tidebook/engine/Side" ∧ Fld Z Z.heap w_SELL "java/lang/Enum" "ordinal" "I" (.int (1 : Int32)) ∧ Fld Z Z.heap w_BUY "java/lang/Enum" "ordinal" "I" (.int (0 : Int32)) ∧ Sta Z Z.heap "java/lang/String" "COMPACT_STRINGS" "Z" (.int v_cs) ∧ ¬ v_cs = (0 : Int32) ∧ True
def Q0 (Z : State) (v : Option Value) (h : Heap) (L : List Loc) : Prop := v = some (.int (1 : Int32)) ∧ Fr Z.heap.size L
def QP (Z : State) (r : Value) (h0 : Heap) (v : Option Value) (h : Heap) (L : List Loc) : Prop := v = some r ∧ Fr Z.heap.size L ∧ h = h0
def QV (Z : State) (h0 : Heap) (v : Option Value) (h : Heap) (L : List Loc) : Prop := v = none ∧ Fr Z.heap.size L ∧ h = h0
def QX (Z : State) (h0 : Heap) (v : Option Value) (h : Heap) (L : List Loc) : Prop := ∃ r : Addr, v = some (.ref r) ∧ Fr Z.heap.size L ∧ Ext h0 h
theorem own_le255 (z : Int32) : ¬ (255 : Int32) < ((z &&& (255 : Int32)).toUInt32.toUInt16.toUInt32.toInt32) := by
  rw [i2c_mask, Int32.lt_iff_toInt_lt]
  have a := c_mask z 255 8 (by decide) (by decide)
  have b : (255 : Int32).toInt = 255 := by decide
  omega
theorem d2_0 : decode jdk_43_method_3_code 0 = .ok (.iload_n 0, 1) := by decide +kernel
theorem d2_1 : decode jdk_43_method_3_code 1 = .ok (.sipush 255, 3) := by decide +kernel
theorem d2_4 : decode jdk_43_method_3_code 4 = .ok (.if_icmp .gt 7, 3) := by decide +kernel
theorem d2_7 : decode jdk_43_method_3_code 7 = .ok (.iconst 1, 1) := by decide +kernel
theorem d2_8 : decode jdk_43_method_3_code 8 = .ok (.goto 4, 3) := by decide +kernel
theorem d2_11 : decode jdk_43_method_3_code 11 = .ok (.iconst 0, 1) := by decide +kernel
theorem d2_12 : decode jdk_43_method_3_code 12 = .ok (.ireturn, 1) := by decide +kernel
theorem pn_0 : plainName "java/lang/StringLatin1" = true := by first | (simp [plainName, overriddenIn]; done) | decide +kernel
set_option maxRecDepth 65536 in
set_option maxHeartbeats 40000000 in
theorem rm2 (l : Launch) (Z : State) (a0 : Array Value) {w_BUY : Addr} {w_SELL : Addr} {v_cs : Int32} (CX : Ctx Z a0 w_BUY w_SELL v_cs) (ws : List Jvm.Cond) (p1 : Int32) (h0 : Heap) (O : Ext Z.heap h0) (hp : ¬ (255 : Int32) < p1) :
    MetFree l (⟨"java/lang/StringLatin1", "canEncode", "(C)Z"⟩ : MethodName) (head1 (Jvm.Cond.code (⟨"java/lang/StringLatin1", "canEncode", "(C)Z"⟩ : MethodName) jdk_43_method_3_code 1 (some .boolean) :: ws) ({ frames := 0, cells := 0, slots := 0, locals := 0 } : Room)) (fun a U => a = #[(.int p1)] ∧ Z.Warmed39 U.vm ∧ U.heap = h0) (fun _ _ _ _ _ => True) (fun _ U o U' => ∃ v L, o = .returned v ∧ QP Z (.int (1 : Int32)) h0 v U'.heap L ∧ FrameEnd U o U' L ({ frames := 0, cells := 0, slots := 0, locals := 0 } : Room).cells ({ frames := 0, cells := 0, slots := 0, locals := 0 } : Room).slots) := by
  refine MetFree.of_bodySF (plainFor_of_name pn_0) hisR ?_
  intro p e s m args below meth c s₁ Bd hml0 hP hK
  obtain ⟨rfl, hZ, hh⟩ := hP
  have CX0 := CX
  obtain ⟨hw, S_BUY, E_BUY, S_SELL, E_SELL, O_SELL, O_BUY, S_cs, hcs, -⟩ := CX0
  have hx := Bd.exec
  have hby := Bd.bytes
  have hml : c.maxLocals = 1 := hml0
  have hown : s.vm.findClass "java/lang/StringLatin1" = some m.cls := findClass_of_methodNamed Bd.named
  have hnm := (name_of_methodNamed Bd.named Bd.method).1
  have hlk : meth.locks = false := BodyLoose.notSynchronized Bd
  have X0 : Stand p l e ({ frames := 0, cells := 0, slots := 0, locals := 0 } : Room) s m #[(.int p1)] below meth c s₁ [] 0 0 := Stand.of_body Bd
  have e0 : s₁.heap = h0 := by rw [← hh, Bd.state]; rfl
  have N := Fr.nil Z.heap.size
  show own_Done p.tables e below (own_R (QP Z (.int (1 : Int32)) h0) s 0 0) s₁ (entryFrame m #[(.int p1)] 1)
  refine own_st (T' := s₁) (F' := (mkF m 0 #[.val (.int p1)] [])) (fun t k => castTop (by first | rfl | (simp [entryFrame, mkF, argsToLocals, Value.category]; done)) k) ?_
  refine own_st (T' := s₁) (F' := (mkF m 1 #[.val (.int p1)] [(.int p1)])) (fun t k => XS.iloadN X0.here hx rfl (hb hby d2_0) rfl k) ?_
  refine own_st (T' := s₁) (F' := (mkF m 4 #[.val (.int p1)] [(.int (255 : Int32)), (.int p1)])) (fun t k => XS.sipush X0.here hx rfl (hb hby d2_1) k) ?_
  refine own_st (T' := s₁) (F' := (mkF m 7 #[.val (.int p1)] [])) (fun t k => XS.icmpNo X0.here hx rfl (hb hby d2_4) rfl (flt hp).2.2.1 k) ?_
  refine own_st (T' := s₁) (F' := (mkF m 8 #[.val (.int p1)] [(.int (1 : Int32))])) (fun t k => XS.iconst X0.here hx rfl (hb hby d2_7) k) ?_
  refine own_st (T' := s₁) (F' := (mkF m 12 #[.val (.int p1)] [(.int (1 : Int32))])) (fun t k => XS.goto X0.here hx rfl (pc0 := 8) (pc' := 12) rfl (hb hby d2_8) (by decide) (by decide) k) ?_
  exact own_retN X0 hx (t := .boolean) Bd.returns (by simp) (by decide) (hb hby d2_12) hlk (by show QP Z (.int (1 : Int32)) h0 _ s₁.heap _; rw [e0]; exact ⟨rfl, N, rfl⟩) (by decide) (by decide)
theorem d3_0 : decode jdk_43_method_46_code 0 = .ok (.iconst 1, 1) := by decide +kernel
theorem d3_1 : decode jdk_43_method_46_code 1 = .ok (.newarray .byte, 2) := by decide +kernel
theorem d3_3 : decode jdk_43_method_46_code 3 = .ok (.dup, 1) := by decide +kernel
theorem d3_4 : decode jdk_43_method_46_code 4 = .ok (.iconst 0, 1) := by decide +kernel
theorem d3_5 : decode jdk_43_method_46_code 5 = .ok (.iload_n 0, 1) := by decide +kernel
theorem d3_6 : decode jdk_43_method_46_code 6 = .ok (.i2b, 1) := by decide +kernel
theorem d3_7 : decode jdk_43_method_46_code 7 = .ok (.bastore, 1) := by decide +kernel
theorem d3_8 : decode jdk_43_method_46_code 8 = .ok (.areturn, 1) := by decide +kernel
set_option maxRecDepth 65536 in
set_option maxHeartbeats 40000000 in
theorem rm3 (l : Launch) (Z : State) (a0 : Array Value) {w_BUY : Addr} {w_SELL : Addr} {v_cs : Int32} (CX : Ctx Z a0 w_BUY w_SELL v_cs) (ws : List Jvm.Cond) (p1 : Int32) (h0 : Heap) (O : Ext Z.heap h0)  :
    MetFree l (⟨"java/lang/StringLatin1", "toBytes", "(C)[B"⟩ : MethodName) (head1 (Jvm.Cond.code (⟨"java/lang/StringLatin1", "toBytes", "(C)[B"⟩ : MethodName) jdk_43_method_46_code 1 (some (.array .byte)) :: ws) ({ frames := 0, cells := 1, slots := 1, locals := 0 } : Room)) (fun a U => a = #[(.int p1)] ∧ Z.Warmed39 U.vm ∧ U.heap = h0) (fun _ _ _ _ _ => True) (fun _ U o U' => ∃ v L, o = .returned v ∧ QX Z h0 v U'.heap L ∧ FrameEnd U o U' L ({ frames := 0, cells := 1, slots := 1, locals := 0 } : Room).cells ({ frames := 0, cells := 1, slots := 1, locals := 0 } : Room).slots) := by
  refine MetFree.of_bodySF (plainFor_of_name pn_0) hisR ?_
  intro p e s m args below meth c s₁ Bd hml0 hP hK
  obtain ⟨rfl, hZ, hh⟩ := hP
  have CX0 := CX
  obtain ⟨hw, S_BUY, E_BUY, S_SELL, E_SELL, O_SELL, O_BUY, S_cs, hcs, -⟩ := CX0
  have hx := Bd.exec
  have hby := Bd.bytes
  have hml : c.maxLocals = 1 := hml0
  have hown : s.vm.findClass "java/lang/StringLatin1" = some m.cls := findClass_of_methodNamed Bd.named
  have hnm := (name_of_methodNamed Bd.named Bd.method).1
  have hlk : meth.locks = false := BodyLoose.notSynchronized Bd
  have X0 : Stand p l e ({ frames := 0, cells := 1, slots := 1, locals := 0 } : Room) s m #[(.int p1)] below meth c s₁ [] 0 0 := Stand.of_body Bd
  have e0 : s₁.heap = h0 := by rw [← hh, Bd.state]; rfl
  have N := Fr.nil Z.heap.size
  show own_Done p.tables e below (own_R (QX Z h0) s 1 1) s₁ (entryFrame m #[(.int p1)] 1)
  refine own_st (T' := s₁) (F' := (mkF m 0 #[.val (.int p1)] [])) (fun t k => castTop (by first | rfl | (simp [entryFrame, mkF, argsToLocals, Value.category]; done)) k) ?_
  have KP := Keep.refl h0 []
  refine own_st (T' := s₁) (F' := (mkF m 1 #[.val (.int p1)] [(.int (1 : Int32))])) (fun t k => XS.iconst X0.here hx rfl (hb hby d3_0) k) ?_
  obtain ⟨T1, h1, k1, X1, e1, E1, A1, st1⟩ := newP X0 hx hZ (hw _ (List.mem_of_getElem? (i := 14) rfl)) e0 (g := (mkF m 1 #[.val (.int p1)] [(.int (1 : Int32))])) rfl (hb hby d3_1) rfl (by decide) (cap := 1) (by decide) (by decide) (by decide) (by decide)
  obtain ⟨b1, g1⟩ : ∃ z, z = h0.size := ⟨_, rfl⟩
  rw [← g1] at A1 st1
  have g_b1 : Z.heap.size ≤ b1 := Nat.le_trans O.1 (Nat.le_of_eq g1.symm)
  have k_b1 : h0.size ≤ b1 := Nat.le_trans KP.1 (Nat.le_of_eq g1.symm)
  have O := own_ext_trans O E1
  have KP := KP.ext E1
  have V_b1 : Arv Z h1 b1 k1 .byte (1 : Int32) [(.int (0 : Int32))] (.int (0 : Int32)) := (Arv.new A1 (by decide)).pad (pad_rep [] (.int (0 : Int32)) 1)
  refine own_st (T' := T1) (F' := (mkF m 3 #[.val (.int p1)] [(.ref b1)])) st1 ?_
  refine own_st (T' := T1) (F' := (mkF m 4 #[.val (.int p1)] [(.ref b1), (.ref b1)])) (fun t k => XS.dup X1.here hx rfl (hb hby d3_3) rfl rfl k) ?_
  refine own_st (T' := T1) (F' := (mkF m 5 #[.val (.int p1)] [(.int (0 : Int32)), (.ref b1), (.ref b1)])) (fun t k => XS.iconst X1.here hx rfl (hb hby d3_4) k) ?_
  refine own_st (T' := T1) (F' := (mkF m 6 #[.val (.int p1)] [(.int p1), (.int (0 : Int32)), (.ref b1), (.ref b1)])) (fun t k => XS.iloadN X1.here hx rfl (hb hby d3_5) rfl k) ?_
  refine own_st (T' := T1) (F' := (mkF m 7 #[.val (.int p1)] [(.int (p1.toInt8.toInt32)), (.int (0 : Int32)), (.ref b1), (.ref b1)])) (fun t k => XS.i2b X1.here hx rfl (hb hby d3_6) rfl k) ?_
  have V2 := V_b1
  obtain ⟨cl2, Ar2, qa2, Sa2, Na2, Ha2, Ga2⟩ := V2
  have hin2 : ¬ ((0 : Int32) < 0 ∨ cl2.slots.size ≤ ((0 : Int32)).toNatClampNeg) := inb_of Sa2 ⟨by decide, by decide⟩
  obtain ⟨T2, h2, X2, e2, W2, st2⟩ := stB X1 hx hZ e1 Ar2 (j := (0 : Int32)) hin2 (g := (mkF m 7 #[.val (.int p1)] [(.int (p1.toInt8.toInt32)), (.int (0 : Int32)), (.ref b1), (.ref b1)])) rfl rfl (hb hby d3_7)
  have O := own_O_wr O W2 g_b1
  have N := Fr.snoc X2 N g_b1
  have KP := KP.wr W2 (Or.inr k_b1)
  have V_b1 : Arv Z h2 b1 k1 .byte (1 : Int32) [(.int (nar .byte (p1.toInt8.toInt32)))] (.int (0 : Int32)) := Arv.set Ar2 qa2 Sa2 Na2 Ha2 Ga2 (fits_nar_byte _) W2 0 rfl (Nat.le_of_ble_eq_true rfl)
  refine own_st (T' := T2) (F' := (mkF m 8 #[.val (.int p1)] [(.ref b1)])) st2 ?_
  exact own_retA X2 hx (t := (.array .byte)) Bd.returns rfl rfl (hb hby d3_8) hlk (by show QX Z h0 _ T2.heap _; rw [e2]; exact ⟨_, rfl, N, own_ext_keep KP⟩) (by decide) (by decide)
def Q_rm4 (Z : State) (a1 : Addr) (p1 : Value) (hp1 : p1.isRef = true) (u_value : Value) (hu_value : u_value.isRef = true) (u_coder : Int32) (h0 : Heap) (v : Option Value) (h : Heap) (L : List Loc) : Prop := v = none ∧ Fr Z.heap.size L ∧ Keep h0 h [a1] ∧ Fld Z h a1 "java/lang/String" "value" "[B" p1 ∧ Fld Z h a1 "java/lang/String" "coder" "B" (.int (0 : Int32))
theorem d4_0 : decode jdk_42_method_151_code 0 = .ok (.aload_n 0, 1) := by decide +kernel
theorem d4_1 : decode jdk_42_method_151_code 1 = .ok (.invokespecial 1, 3) := by decide +kernel
theorem d4_4 : decode jdk_42_method_151_code 4 = .ok (.aload_n 0, 1) := by decide +kernel
theorem d4_5 : decode jdk_42_method_151_code 5 = .ok (.aload_n 1, 1) := by decide +kernel
theorem d4_6 : decode jdk_42_method_151_code 6 = .ok (.putfield 9, 3) := by decide +kernel
theorem d4_9 : decode jdk_42_method_151_code 9 = .ok (.aload_n 0, 1) := by decide +kernel
theorem d4_10 : decode jdk_42_method_151_code 10 = .ok (.iload_n 2, 1) := by decide +kernel
theorem d4_11 : decode jdk_42_method_151_code 11 = .ok (.putfield 15, 3) := by decide +kernel
theorem d4_14 : decode jdk_42_method_151_code 14 = .ok (.return_, 1) := by decide +kernel
theorem pn_1 : plainName "java/lang/String" = true := by first | (simp [plainName, overriddenIn]; done) | decide +kernel
set_option maxRecDepth 65536 in
set_option maxHeartbeats 40000000 in
theorem rm4 (l : Launch) (Z : State) (a0 : Array Value) {w_BUY : Addr} {w_SELL : Addr} {v_cs : Int32} (CX : Ctx Z a0 w_BUY w_SELL v_cs) (ws : List Jvm.Cond) (a1 : Addr) (p1 : Value) (hp1 : p1.isRef = true) (u_value : Value) (hu_value : u_value.isRef = true) (u_coder : Int32) (h0 : Heap) (O : Ext Z.heap h0) (E_a1 : Exa Z h0 a1 "java/lang/String") (g_a1 : Z.heap.size ≤ a1) (F_value : Fld Z h0 a1 "java/lang/String" "value" "[B" u_value) (F_coder : Fld Z h0 a1 "java/lang/String" "coder" "B" (.int u_coder)) :
    MetFree l (⟨"java/lang/String", "<init>", "([BB)V"⟩ : MethodName) (head1 (Jvm.Cond.code (⟨"java/lang/String", "<init>", "([BB)V"⟩ : MethodName) jdk_42_method_151_code 3 none :: ws) ({ frames := 1, cells := 0, slots := 0, locals := 12 } : Room)) (fun a U => a = #[(.ref a1), p1, (.int (0 : Int32))] ∧ Z.Warmed39 U.vm ∧ U.heap = h0) (fun _ _ _ _ _ => True) (fun _ U o U' => ∃ v L, o = .returned v ∧ Q_rm4 Z a1 p1 hp1 u_value hu_value u_coder h0 v U'.heap L ∧ FrameEnd U o U' L ({ frames := 1, cells := 0, slots := 0, locals := 12 } : Room).cells ({ frames := 1, cells := 0, slots := 0, locals := 12 } : Room).slots) := by
  refine MetFree.of_bodySF (plainFor_of_name pn_1) hisR ?_
  intro p e s m args below meth c s₁ Bd hml0 hP hK
  obtain ⟨rfl, hZ, hh⟩ := hP
  have CX0 := CX
  obtain ⟨hw, S_BUY, E_BUY, S_SELL, E_SELL, O_SELL, O_BUY, S_cs, hcs, -⟩ := CX0
  have hx := Bd.exec
  have hby := Bd.bytes
  have hml : c.maxLocals = 3 := hml0
  have hown : s.vm.findClass "java/lang/String" = some m.cls := findClass_of_methodNamed Bd.named
  have hnm := (name_of_methodNamed Bd.named Bd.method).1
  have hlk : meth.locks = false := BodyLoose.notSynchronized Bd
  have X0 : Stand p l e ({ frames := 1, cells := 0, slots := 0, locals := 12 } : Room) s m #[(.ref a1), p1, (.int (0 : Int32))] below meth c s₁ [] 0 0 := Stand.of_body Bd
  have e0 : s₁.heap = h0 := by rw [← hh, Bd.state]; rfl
  have N := Fr.nil Z.heap.size
  show own_Done p.tables e below (own_R (Q_rm4 Z a1 p1 hp1 u_value hu_value u_coder h0) s 0 0) s₁ (entryFrame m #[(.ref a1), p1, (.int (0 : Int32))] 3)
  refine own_st (T' := s₁) (F' := (mkF m 0 #[.val (.ref a1), .val p1, .val (.int (0 : Int32))] [])) (fun t k => castTop (by rcases ref_cases hp1 with rfl | ⟨_, rfl⟩ <;> rfl) k) ?_
  have KP := Keep.refl h0 [a1]
  refine own_st (T' := s₁) (F' := (mkF m 1 #[.val (.ref a1), .val p1, .val (.int (0 : Int32))] [(.ref a1)])) (fun t k => XS.aloadN X0.here hx rfl (hb hby d4_0) rfl rfl k) ?_
  obtain ⟨T1, X1, e1, st1⟩ := initO X0 hx hZ hown (hw _ (List.mem_of_getElem? (i := 19) rfl)) (hw _ (List.mem_of_getElem? (i := 20) rfl)) (hw _ (List.mem_of_getElem? (i := 21) rfl)) e0 (g := (mkF m 1 #[.val (.ref a1), .val p1, .val (.int (0 : Int32))] [(.ref a1)])) rfl (by rw [hml]; rfl) rfl (hb hby d4_1) (by decide) (W := 0) (by show 2 * 0 + _ ≤ _; exact Nat.le_of_eq rfl) (by decide)
  refine own_st (T' := T1) (F' := (mkF m 4 #[.val (.ref a1), .val p1, .val (.int (0 : Int32))] [])) st1 ?_
  refine own_st (T' := T1) (F' := (mkF m 5 #[.val (.ref a1), .val p1, .val (.int (0 : Int32))] [(.ref a1)])) (fun t k => XS.aloadN X1.here hx rfl (hb hby d4_4) rfl rfl k) ?_
  refine own_st (T' := T1) (F' := (mkF m 6 #[.val (.ref a1), .val p1, .val (.int (0 : Int32))] [p1, (.ref a1)])) (fun t k => XS.aloadN X1.here hx rfl (hb hby d4_5) rfl hp1 k) ?_
  obtain ⟨T2, h2, X2, e2, W2, st2⟩ := putF X1 hx hZ hown (host := "") (Or.inl (hw _ (List.mem_of_getElem? (i := 22) rfl))) Via.refl e1 F_value E_a1 (Or.inr ⟨(hw _ (List.mem_of_getElem? (i := 23) rfl)), rfl, hnm⟩) (hw _ (List.mem_of_getElem? (i := 10) rfl)) (ty := (.array .byte)) (by decide) (own_narrow hp1) (own_fits rfl hp1) (g := (mkF m 6 #[.val (.ref a1), .val p1, .val (.int (0 : Int32))] [p1, (.ref a1)])) rfl rfl (hb hby d4_6)
  have E_a1 := E_a1.wr W2
  have F_coder := F_coder.other W2 (Or.inr (slot_ne (Or.inr (hw _ (List.mem_of_getElem? (i := 25) rfl))) (Or.inr (hw _ (List.mem_of_getElem? (i := 23) rfl))) (by decide) (t := .byte) (t' := (.array .byte)) (by decide) (by decide)))
  have O := own_O_wr O W2 g_a1
  have N := Fr.snoc X2 N g_a1
  have KP := KP.wr W2 (Or.inl (List.mem_of_getElem? (i := 0) rfl))
  have F_value := F_value.same W2
  refine own_st (T' := T2) (F' := (mkF m 9 #[.val (.ref a1), .val p1, .val (.int (0 : Int32))] [])) st2 ?_
  refine own_st (T' := T2) (F' := (mkF m 10 #[.val (.ref a1), .val p1, .val (.int (0 : Int32))] [(.ref a1)])) (fun t k => XS.aloadN X2.here hx rfl (hb hby d4_9) rfl rfl k) ?_
  refine own_st (T' := T2) (F' := (mkF m 11 #[.val (.ref a1), .val p1, .val (.int (0 : Int32))] [(.int (0 : Int32)), (.ref a1)])) (fun t k => XS.iloadN X2.here hx rfl (hb hby d4_10) rfl k) ?_
  obtain ⟨T3, h3, X3, e3, W3, st3⟩ := putFN X2 hx hZ hown (hw _ (List.mem_of_getElem? (i := 24) rfl)) Via.refl e2 F_coder E_a1 (Or.inr ⟨(hw _ (List.mem_of_getElem? (i := 25) rfl)), rfl, hnm⟩) (hw _ (List.mem_of_getElem? (i := 10) rfl)) (ty := .byte) (v' := (.int (0 : Int32))) (by decide) rfl (by decide) (g := (mkF m 11 #[.val (.ref a1), .val p1, .val (.int (0 : Int32))] [(.int (0 : Int32)), (.ref a1)])) rfl rfl (hb hby d4_11)
  have E_a1 := E_a1.wr W3
  have F_value := F_value.other W3 (Or.inr (slot_ne (Or.inr (hw _ (List.mem_of_getElem? (i := 23) rfl))) (Or.inr (hw _ (List.mem_of_getElem? (i := 25) rfl))) (by decide) (t := (.array .byte)) (t' := .byte) (by decide) (by decide)))
  have O := own_O_wr O W3 g_a1
  have N := Fr.snoc X3 N g_a1
  have KP := KP.wr W3 (Or.inl (List.mem_of_getElem? (i := 0) rfl))
  have F_coder := F_coder.same W3
  refine own_st (T' := T3) (F' := (mkF m 14 #[.val (.ref a1), .val p1, .val (.int (0 : Int32))] [])) st3 ?_
  exact own_retV X3 hx Bd.returns (hb hby d4_14) hlk (by show Q_rm4 Z a1 p1 hp1 u_value hu_value u_coder h0 _ T3.heap _; rw [e3]; exact ⟨rfl, N, KP, F_value, F_coder⟩) (by decide) (by decide)
theorem d1_0 : decode jdk_42_method_139_code 0 = .ok (.getstatic 38, 3) := by decide +kernel
theorem d1_3 : decode jdk_42_method_139_code 3 = .ok (.ifCond .eq 23, 3) := by decide +kernel
theorem d1_6 : decode jdk_42_method_139_code 6 = .ok (.iload_n 0, 1) := by decide +kernel
theorem d1_7 : decode jdk_42_method_139_code 7 = .ok (.invokestatic 1015, 3) := by decide +kernel
theorem d1_10 : decode jdk_42_method_139_code 10 = .ok (.ifCond .eq 16, 3) := by decide +kernel
theorem d1_13 : decode jdk_42_method_139_code 13 = .ok (.new 10, 3) := by decide +kernel
theorem d1_16 : decode jdk_42_method_139_code 16 = .ok (.dup, 1) := by decide +kernel
theorem d1_17 : decode jdk_42_method_139_code 17 = .ok (.iload_n 0, 1) := by decide +kernel
theorem d1_18 : decode jdk_42_method_139_code 18 = .ok (.invokestatic 1018, 3) := by decide +kernel
theorem d1_21 : decode jdk_42_method_139_code 21 = .ok (.iconst 0, 1) := by decide +kernel
theorem d1_22 : decode jdk_42_method_139_code 22 = .ok (.invokespecial 209, 3) := by decide +kernel
theorem d1_25 : decode jdk_42_method_139_code 25 = .ok (.areturn, 1) := by decide +kernel
theorem d1_26 : decode jdk_42_method_139_code 26 = .ok (.new 10, 3) := by decide +kernel
theorem d1_29 : decode jdk_42_method_139_code 29 = .ok (.dup, 1) := by decide +kernel
theorem d1_30 : decode jdk_42_method_139_code 30 = .ok (.iload_n 0, 1) := by decide +kernel
theorem d1_31 : decode jdk_42_method_139_code 31 = .ok (.invokestatic 1021, 3) := by decide +kernel
theorem d1_34 : decode jdk_42_method_139_code 34 = .ok (.iconst 1, 1) := by decide +kernel
theorem d1_35 : decode jdk_42_method_139_code 35 = .ok (.invokespecial 209, 3) := by decide +kernel
theorem d1_38 : decode jdk_42_method_139_code 38 = .ok (.areturn, 1) := by decide +kernel
theorem pd_0 : parseMethodDescriptor "(C)Z" = some ⟨[.char], some .boolean⟩ := by decide +kernel
theorem pd_1 : parseMethodDescriptor "(C)[B" = some ⟨[.char], some (.array .byte)⟩ := by decide +kernel
theorem pd_2 : parseMethodDescriptor "([BB)V" = some ⟨[(.array .byte), .byte], none⟩ := by decide +kernel
set_option maxRecDepth 65536 in
set_option maxHeartbeats 40000000 in
theorem rm1 (l : Launch) (Z : State) (a0 : Array Value) {w_BUY : Addr} {w_SELL : Addr} {v_cs : Int32} (CX : Ctx Z a0 w_BUY w_SELL v_cs) (ws : List Jvm.Cond) (p1 : Int32) (h0 : Heap) (O : Ext Z.heap h0) (hp : ¬ (255 : Int32) < p1) :
    MetFree l (⟨"java/lang/String", "valueOf", "(C)Ljava/lang/String;"⟩ : MethodName) (head1 (Jvm.Cond.code (⟨"java/lang/String", "valueOf", "(C)Ljava/lang/String;"⟩ : MethodName) jdk_42_method_139_code 1 (some (.object "java/lang/String")) :: ws) ({ frames := 2, cells := 2, slots := 5, locals := 28 } : Room)) (fun a U => a = #[(.int p1)] ∧ Z.Warmed39 U.vm ∧ U.heap = h0) (fun _ _ _ _ _ => True) (fun _ U o U' => ∃ v L, o = .returned v ∧ QX Z h0 v U'.heap L ∧ FrameEnd U o U' L ({ frames := 2, cells := 2, slots := 5, locals := 28 } : Room).cells ({ frames := 2, cells := 2, slots := 5, locals := 28 } : Room).slots) := by
  refine MetFree.of_bodySF (plainFor_of_name pn_1) hisR ?_
  intro p e s m args below meth c s₁ Bd hml0 hP hK
  obtain ⟨rfl, hZ, hh⟩ := hP
  have CX0 := CX
  obtain ⟨hw, S_BUY, E_BUY, S_SELL, E_SELL, O_SELL, O_BUY, S_cs, hcs, -⟩ := CX0
  have hx := Bd.exec
  have hby := Bd.bytes
  have hml : c.maxLocals = 1 := hml0
  have hown : s.vm.findClass "java/lang/String" = some m.cls := findClass_of_methodNamed Bd.named
  have hnm := (name_of_methodNamed Bd.named Bd.method).1
  have hlk : meth.locks = false := BodyLoose.notSynchronized Bd
  have X0 : Stand p l e ({ frames := 2, cells := 2, slots := 5, locals := 28 } : Room) s m #[(.int p1)] below meth c s₁ [] 0 0 := Stand.of_body Bd
  have e0 : s₁.heap = h0 := by rw [← hh, Bd.state]; rfl
  have N := Fr.nil Z.heap.size
  show own_Done p.tables e below (own_R (QX Z h0) s 2 5) s₁ (entryFrame m #[(.int p1)] 1)
  refine own_st (T' := s₁) (F' := (mkF m 0 #[.val (.int p1)] [])) (fun t k => castTop (by first | rfl | (simp [entryFrame, mkF, argsToLocals, Value.category]; done)) k) ?_
  have KP := Keep.refl h0 []
  obtain ⟨T1, X1, e1, st1⟩ := getS2 X0 hx hZ hown (host := "") (Or.inl (hw _ (List.mem_of_getElem? (i := 4) rfl))) Via.refl e0 (S_cs.ext O) (g := (mkF m 0 #[.val (.int p1)] [])) rfl (hb hby d1_0)
  refine own_st (T' := T1) (F' := (mkF m 3 #[.val (.int p1)] [(.int v_cs)])) st1 ?_
  refine own_st (T' := T1) (F' := (mkF m 6 #[.val (.int p1)] [])) (fun t k => XS.ifNo X1.here hx rfl (hb hby d1_3) rfl ((if0 _ _).trans (feq hcs).1) k) ?_
  refine own_st (T' := T1) (F' := (mkF m 7 #[.val (.int p1)] [(.int p1)])) (fun t k => XS.iloadN X1.here hx rfl (hb hby d1_6) rfl k) ?_
  obtain ⟨v2, _, ⟨T2, L2, k2, n2⟩, -, X2, ⟨Lc2, hQ2, l2, y2, z2⟩, st2⟩ := Jvm.LawKit.callS X1 hx (y := (⟨"java/lang/StringLatin1", "canEncode", "(C)Z"⟩ : MethodName)) hown (mvT hZ (hw _ (List.mem_of_getElem? (i := 5) rfl))) (mvT hZ (hw _ (List.mem_of_getElem? (i := 6) rfl))) (mvT hZ (hw _ (List.mem_of_getElem? (i := 7) rfl))) (mvT hZ (hw _ (List.mem_of_getElem? (i := 8) rfl))) (by decide) (backOf (W := 0) (rm2 l Z a0 CX [] p1 h0 O hp) hZ (hw _ (List.mem_of_getElem? (i := 8) rfl)) (hw _ (List.mem_of_getElem? (i := 7) rfl)) (by decide) (by decide)) (g := (mkF m 7 #[.val (.int p1)] [(.int p1)])) rfl (by rw [hml]; rfl) (argsL := [(.int p1)]) (rest := []) (lenOf pd_0 rfl) rfl (by show 2 * 0 + _ ≤ _; exact Nat.le_of_eq rfl) (hb hby d1_7) (fun _ _ => ⟨rfl, e1, (by decide : 0 + 0 ≤ _), (by decide : 0 + 0 ≤ _)⟩)
  dsimp only [Pt.U, Pt.locs, Pt.cells, Pt.slots] at X2 l2 y2 z2 st2 hQ2
  subst l2 y2 z2
  obtain ⟨rfl, N2q, e2⟩ := hQ2
  have N := Fr.app N N2q
  refine own_st (T' := T2) (F' := (mkF m 10 #[.val (.int p1)] [(.int (1 : Int32))])) st2 ?_
  refine own_st (T' := T2) (F' := (mkF m 13 #[.val (.int p1)] [])) (fun t k => XS.ifNo X2.here hx rfl (hb hby d1_10) rfl ((if0 _ _).trans (feq (by decide : ¬ ((1 : Int32) = (0 : Int32)))).1) k) ?_
  obtain ⟨T3, h3, X3, e3, E3, A3, D3, U3, st3⟩ := newO X2 hx hZ hown (hw _ (List.mem_of_getElem? (i := 9) rfl)) (hw _ (List.mem_of_getElem? (i := 10) rfl)) (hw _ (List.mem_of_getElem? (i := 2) rfl)) e2 (g := (mkF m 13 #[.val (.int p1)] [])) rfl (hb hby d1_13) (by decide) (by decide)
  obtain ⟨b3, g3⟩ : ∃ z, z = h0.size := ⟨_, rfl⟩
  rw [← g3] at A3 D3 U3 st3
  have g_b3 : Z.heap.size ≤ b3 := Nat.le_trans O.1 (Nat.le_of_eq g3.symm)
  have k_b3 : h0.size ≤ b3 := Nat.le_trans KP.1 (Nat.le_of_eq g3.symm)
  have O := own_ext_trans O E3
  have KP := KP.ext E3
  have E_b3 := A3
  have F_value_b3 : Fld Z h3 b3 "java/lang/String" "value" "[B" .null := D3 (Or.inr (hw _ (List.mem_of_getElem? (i := 23) rfl))) (ty := (.array .byte)) (by decide)
  have F_coder_b3 : Fld Z h3 b3 "java/lang/String" "coder" "B" (.int (0 : Int32)) := D3 (Or.inr (hw _ (List.mem_of_getElem? (i := 25) rfl))) (ty := .byte) (by decide)
  refine own_st (T' := T3) (F' := (mkF m 16 #[.val (.int p1)] [(.ref b3)])) st3 ?_
  refine own_st (T' := T3) (F' := (mkF m 17 #[.val (.int p1)] [(.ref b3), (.ref b3)])) (fun t k => XS.dup X3.here hx rfl (hb hby d1_16) rfl rfl k) ?_
  refine own_st (T' := T3) (F' := (mkF m 18 #[.val (.int p1)] [(.int p1), (.ref b3), (.ref b3)])) (fun t k => XS.iloadN X3.here hx rfl (hb hby d1_17) rfl k) ?_
  obtain ⟨v4, _, ⟨T4, L4, k4, n4⟩, -, X4, ⟨Lc4, hQ4, l4, y4, z4⟩, st4⟩ := Jvm.LawKit.callS X3 hx (y := (⟨"java/lang/StringLatin1", "toBytes", "(C)[B"⟩ : MethodName)) hown (mvT hZ (hw _ (List.mem_of_getElem? (i := 11) rfl))) (mvT hZ (hw _ (List.mem_of_getElem? (i := 12) rfl))) (mvT hZ (hw _ (List.mem_of_getElem? (i := 7) rfl))) (mvT hZ (hw _ (List.mem_of_getElem? (i := 13) rfl))) (by decide) (backOf (W := 2) (rm3 l Z a0 CX [] p1 h3 O) hZ (hw _ (List.mem_of_getElem? (i := 13) rfl)) (hw _ (List.mem_of_getElem? (i := 7) rfl)) (by decide) (by decide)) (g := (mkF m 18 #[.val (.int p1)] [(.int p1), (.ref b3), (.ref b3)])) rfl (by rw [hml]; rfl) (argsL := [(.int p1)]) (rest := [(.ref b3), (.ref b3)]) (lenOf pd_1 rfl) rfl (by show 2 * 0 + _ ≤ _; exact Nat.le_of_eq rfl) (hb hby d1_18) (fun _ _ => ⟨rfl, e3, (by decide : 1 + 1 ≤ _), (by decide : 4 + 1 ≤ _)⟩)
  dsimp only [Pt.U, Pt.locs, Pt.cells, Pt.slots] at X4 l4 y4 z4 st4 hQ4
  subst l4 y4 z4
  obtain ⟨r4, rfl, N4q, E4⟩ := hQ4
  have N := Fr.app N N4q
  have E_b3 := E_b3.ext E4
  have F_value_b3 := F_value_b3.ext E4
  have F_coder_b3 := F_coder_b3.ext E4
  have O := own_ext_trans O E4
  have KP := KP.ext E4
  refine own_st (T' := T4) (F' := (mkF m 21 #[.val (.int p1)] [(.ref r4), (.ref b3), (.ref b3)])) st4 ?_
  refine own_st (T' := T4) (F' := (mkF m 22 #[.val (.int p1)] [(.int (0 : Int32)), (.ref r4), (.ref b3), (.ref b3)])) (fun t k => XS.iconst X4.here hx rfl (hb hby d1_21) k) ?_
  obtain ⟨v5, _, ⟨T5, L5, k5, n5⟩, -, X5, ⟨Lc5, hQ5, l5, y5, z5⟩, st5⟩ := X4.specialBack hx (y := (⟨"java/lang/String", "<init>", "([BB)V"⟩ : MethodName)) rfl hown (mvT hZ (hw _ (List.mem_of_getElem? (i := 15) rfl))) (mvT hZ (hw _ (List.mem_of_getElem? (i := 16) rfl))) (mvT hZ (hw _ (List.mem_of_getElem? (i := 18) rfl))) (by decide) (backOf (W := 1) (rm4 l Z a0 CX [] b3 (.ref r4) rfl .null rfl (0 : Int32) T4.heap O E_b3 g_b3 F_value_b3 F_coder_b3) hZ (hw _ (List.mem_of_getElem? (i := 18) rfl)) (hw _ (List.mem_of_getElem? (i := 2) rfl)) (by decide) (by decide)) (g := (mkF m 22 #[.val (.int p1)] [(.int (0 : Int32)), (.ref r4), (.ref b3), (.ref b3)])) rfl (by rw [hml]; rfl) (Steps.refl _) (a := b3) (argsL := [(.ref r4), (.int (0 : Int32))]) (rest := [(.ref b3)]) (lenOf pd_2 rfl) rfl (by show 2 * 0 + _ ≤ _; exact Nat.le_of_eq rfl) (hb hby d1_22) (fun _ _ => ⟨rfl, rfl, (by decide : 2 + 0 ≤ _), (by decide : 5 + 0 ≤ _)⟩)
  dsimp only [Pt.U, Pt.locs, Pt.cells, Pt.slots] at X5 l5 y5 z5 st5 hQ5
  subst l5 y5 z5
  obtain ⟨rfl, N5q, K5, F_value_b3, F_coder_b3⟩ := hQ5
  have N := Fr.app N N5q
  have E_b3 := E_b3.keep K5
  have O := own_O_keep O K5 (allS g_b3 all0)
  have KP := KP.trans K5 (allS (Or.inr k_b3) all0)
  refine own_tr (T' := T5) (F' := (mkF m 25 #[.val (.int p1)] [(.ref b3)])) st5 ?_
  exact own_retA X5 hx (t := (.object "java/lang/String")) Bd.returns rfl rfl (hb hby d1_25) hlk (⟨_, rfl, N, own_ext_keep KP⟩) (by decide) (by decide)
theorem d7_0 : decode jdk_30_method_1_code 0 = .ok (.aload_n 0, 1) := by decide +kernel
theorem d7_1 : decode jdk_30_method_1_code 1 = .ok (.invokespecial 1, 3) := by decide +kernel
theorem d7_4 : decode jdk_30_method_1_code 4 = .ok (.return_, 1) := by decide +kernel
theorem pn_2 : plainName "java/lang/Record" = true := by first | (simp [plainName, overriddenIn]; done) | decide +kernel
set_option maxRecDepth 65536 in
set_option maxHeartbeats 40000000 in
theorem rm7 (l : Launch) (Z : State) (a0 : Array Value) {w_BUY : Addr} {w_SELL : Addr} {v_cs : Int32} (CX : Ctx Z a0 w_BUY w_SELL v_cs) (ws : List Jvm.Cond) (a1 : Addr) (h0 : Heap) (O : Ext Z.heap h0)  :
    MetFree l (⟨"java/lang/Record", "<init>", "()V"⟩ : MethodName) (head1 (Jvm.Cond.code (⟨"java/lang/Record", "<init>", "()V"⟩ : MethodName) jdk_30_method_1_code 1 none :: ws) ({ frames := 1, cells := 0, slots := 0, locals := 12 } : Room)) (fun a U => a = #[(.ref a1)] ∧ Z.Warmed39 U.vm ∧ U.heap = h0) (fun _ _ _ _ _ => True) (fun _ U o U' => ∃ v L, o = .returned v ∧ QV Z h0 v U'.heap L ∧ FrameEnd U o U' L ({ frames := 1, cells := 0, slots := 0, locals := 12 } : Room).cells ({ frames := 1, cells := 0, slots := 0, locals := 12 } : Room).slots) := by
  refine MetFree.of_bodySF (plainFor_of_name pn_2) hisR ?_
  intro p e s m args below meth c s₁ Bd hml0 hP hK
  obtain ⟨rfl, hZ, hh⟩ := hP
  have CX0 := CX
  obtain ⟨hw, S_BUY, E_BUY, S_SELL, E_SELL, O_SELL, O_BUY, S_cs, hcs, -⟩ := CX0
  have hx := Bd.exec
  have hby := Bd.bytes
  have hml : c.maxLocals = 1 := hml0
  have hown : s.vm.findClass "java/lang/Record" = some m.cls := findClass_of_methodNamed Bd.named
  have hnm := (name_of_methodNamed Bd.named Bd.method).1
  have hlk : meth.locks = false := BodyLoose.notSynchronized Bd
  have X0 : Stand p l e ({ frames := 1, cells := 0, slots := 0, locals := 12 } : Room) s m #[(.ref a1)] below meth c s₁ [] 0 0 := Stand.of_body Bd
  have e0 : s₁.heap = h0 := by rw [← hh, Bd.state]; rfl
  have N := Fr.nil Z.heap.size
  show own_Done p.tables e below (own_R (QV Z h0) s 0 0) s₁ (entryFrame m #[(.ref a1)] 1)
  refine own_st (T' := s₁) (F' := (mkF m 0 #[.val (.ref a1)] [])) (fun t k => castTop (by first | rfl | (simp [entryFrame, mkF, argsToLocals, Value.category]; done)) k) ?_
  refine own_st (T' := s₁) (F' := (mkF m 1 #[.val (.ref a1)] [(.ref a1)])) (fun t k => XS.aloadN X0.here hx rfl (hb hby d7_0) rfl rfl k) ?_
  obtain ⟨T1, X1, e1, st1⟩ := initO X0 hx hZ hown (hw _ (List.mem_of_getElem? (i := 40) rfl)) (hw _ (List.mem_of_getElem? (i := 20) rfl)) (hw _ (List.mem_of_getElem? (i := 21) rfl)) e0 (g := (mkF m 1 #[.val (.ref a1)] [(.ref a1)])) rfl (by rw [hml]; rfl) rfl (hb hby d7_1) (by decide) (W := 0) (by show 2 * 0 + _ ≤ _; exact Nat.le_of_eq rfl) (by decide)
  refine own_st (T' := T1) (F' := (mkF m 4 #[.val (.ref a1)] [])) st1 ?_
  exact own_retV X1 hx Bd.returns (hb hby d7_4) hlk (by show QV Z h0 _ T1.heap _; rw [e1]; exact ⟨rfl, N, rfl⟩) (by decide) (by decide)
def Q_rm6 (Z : State) (a1 : Addr) (p1 : Value) (hp1 : p1.isRef = true) (p2 : Value) (hp2 : p2.isRef = true) (p3 : Value) (hp3 : p3.isRef = true) (p4 : Int64) (p5 : Int64) (u_provider : Value) (hu_provider : u_provider.isRef = true) (u_broker : Value) (hu_broker : u_broker.isRef = true) (u_symbol : Value) (hu_symbol : u_symbol.isRef = true) (u_brokerBuyMax : Int64) (u_brokerSellMax : Int64) (h0 : Heap) (v : Option Value) (h : Heap) (L : List Loc) : Prop := v = none ∧ Fr Z.heap.size L ∧ Keep h0 h [a1] ∧ Fld Z h a1 "com/example/tidebook/tidebook/engine/Liquidity" "provider" "Ljava/lang/String;" p1 ∧ Fld Z h a1 "com/example/tidebook/tidebook/engine/Liquidity" "broker" "Ljava/lang/String;" p2 ∧ Fld Z h a1 "com/example/tidebook/tidebook/engine/Liquidity" "symbol" "Ljava/lang/String;" p3 ∧ Fld Z h a1 "com/example/tidebook/tidebook/engine/Liquidity" "brokerBuyMax" "J" (.long p4) ∧ Fld Z h a1 "com/example/tidebook/tidebook/engine/Liquidity" "brokerSellMax" "J" (.long p5)
theorem d6_0 : decode prog_34_method_1_code 0 = .ok (.aload_n 0, 1) := by decide +kernel
theorem d6_1 : decode prog_34_method_1_code 1 = .ok (.invokespecial 1, 3) := by decide +kernel
theorem d6_4 : decode prog_34_method_1_code 4 = .ok (.aload_n 0, 1) := by decide +kernel
theorem d6_5 : decode prog_34_method_1_code 5 = .ok (.aload_n 1, 1) := by decide +kernel
theorem d6_6 : decode prog_34_method_1_code 6 = .ok (.putfield 7, 3) := by decide +kernel
theorem d6_9 : decode prog_34_method_1_code 9 = .ok (.aload_n 0, 1) := by decide +kernel
theorem d6_10 : decode prog_34_method_1_code 10 = .ok (.aload_n 2, 1) := by decide +kernel
theorem d6_11 : decode prog_34_method_1_code 11 = .ok (.putfield 13, 3) := by decide +kernel
theorem d6_14 : decode prog_34_method_1_code 14 = .ok (.aload_n 0, 1) := by decide +kernel
theorem d6_15 : decode prog_34_method_1_code 15 = .ok (.aload_n 3, 1) := by decide +kernel
theorem d6_16 : decode prog_34_method_1_code 16 = .ok (.putfield 16, 3) := by decide +kernel
theorem d6_19 : decode prog_34_method_1_code 19 = .ok (.aload_n 0, 1) := by decide +kernel
theorem d6_20 : decode prog_34_method_1_code 20 = .ok (.lload 4, 2) := by decide +kernel
theorem d6_22 : decode prog_34_method_1_code 22 = .ok (.putfield 19, 3) := by decide +kernel
theorem d6_25 : decode prog_34_method_1_code 25 = .ok (.aload_n 0, 1) := by decide +kernel
theorem d6_26 : decode prog_34_method_1_code 26 = .ok (.lload 6, 2) := by decide +kernel
theorem d6_28 : decode prog_34_method_1_code 28 = .ok (.putfield 23, 3) := by decide +kernel
theorem d6_31 : decode prog_34_method_1_code 31 = .ok (.return_, 1) := by decide +kernel
theorem pn_3 : plainName "com/example/tidebook/tidebook/engine/Liquidity" = true := by first | (simp [plainName, overriddenIn]; done) | decide +kernel
theorem pd_3 : parseMethodDescriptor "()V" = some ⟨[], none⟩ := by decide +kernel
set_option maxRecDepth 65536 in
set_option maxHeartbeats 40000000 in
theorem rm6 (l : Launch) (Z : State) (a0 : Array Value) {w_BUY : Addr} {w_SELL : Addr} {v_cs : Int32} (CX : Ctx Z a0 w_BUY w_SELL v_cs) (ws : List Jvm.Cond) (a1 : Addr) (p1 : Value) (hp1 : p1.isRef = true) (p2 : Value) (hp2 : p2.isRef = true) (p3 : Value) (hp3 : p3.isRef = true) (p4 : Int64) (p5 : Int64) (u_provider : Value) (hu_provider : u_provider.isRef = true) (u_broker : Value) (hu_broker : u_broker.isRef = true) (u_symbol : Value) (hu_symbol : u_symbol.isRef = true) (u_brokerBuyMax : Int64) (u_brokerSellMax : Int64) (h0 : Heap) (O : Ext Z.heap h0) (E_a1 : Exa Z h0 a1 "com/example/tidebook/tidebook/engine/Liquidity") (g_a1 : Z.heap.size ≤ a1) (F_provider : Fld Z h0 a1 "com/example/tidebook/tidebook/engine/Liquidity" "provider" "Ljava/lang/String;" u_provider) (F_broker : Fld Z h0 a1 "com/example/tidebook/tidebook/engine/Liquidity" "broker" "Ljava/lang/String;" u_broker) (F_symbol : Fld Z h0 a1 "com/example/tidebook/tidebook/engine/Liquidity" "symbol" "Ljava/lang/String;" u_symbol) (F_brokerBuyMax : Fld Z h0 a1 "com/example/tidebook/tidebook/engine/Liquidity" "brokerBuyMax" "J" (.long u_brokerBuyMax)) (F_brokerSellMax : Fld Z h0 a1 "com/example/tidebook/tidebook/engine/Liquidity" "brokerSellMax" "J" (.long u_brokerSellMax)) :
    MetFree l (⟨"com/example/tidebook/tidebook/engine/Liquidity", "<init>", "(Ljava/lang/String;Ljava/lang/String;Ljava/lang/String;JJ)V"⟩ : MethodName) (head1 (Jvm.Cond.code (⟨"com/example/tidebook/tidebook/engine/Liquidity", "<init>", "(Ljava/lang/String;Ljava/lang/String;Ljava/lang/String;JJ)V"⟩ : MethodName) prog_34_method_1_code 8 none :: ws) ({ frames := 2, cells := 0, slots := 0, locals := 24 } : Room)) (fun a U => a = #[(.ref a1), p1, p2, p3, (.long p4), (.long p5)] ∧ Z.Warmed39 U.vm ∧ U.heap = h0) (fun _ _ _ _ _ => True) (fun _ U o U' => ∃ v L, o = .returned v ∧ Q_rm6 Z a1 p1 hp1 p2 hp2 p3 hp3 p4 p5 u_provider hu_provider u_broker hu_broker u_symbol hu_symbol u_brokerBuyMax u_brokerSellMax h0 v U'.heap L ∧ FrameEnd U o U' L ({ frames := 2, cells := 0, slots := 0, locals := 24 } : Room).cells ({ frames := 2, cells := 0, slots := 0, locals := 24 } : Room).slots) := by
  refine MetFree.of_bodySF (plainFor_of_name pn_3) hisR ?_
  intro p e s m args below meth c s₁ Bd hml0 hP hK
  obtain ⟨rfl, hZ, hh⟩ := hP
  have CX0 := CX
  obtain ⟨hw, S_BUY, E_BUY, S_SELL, E_SELL, O_SELL, O_BUY, S_cs, hcs, -⟩ := CX0
  have hx := Bd.exec
  have hby := Bd.bytes
  have hml : c.maxLocals = 8 := hml0
  have hown : s.vm.findClass "com/example/tidebook/tidebook/engine/Liquidity" = some m.cls := findClass_of_methodNamed Bd.named
  have hnm := (name_of_methodNamed Bd.named Bd.method).1
  have hlk : meth.locks = false := BodyLoose.notSynchronized Bd
  have X0 : Stand p l e ({ frames := 2, cells := 0, slots := 0, locals := 24 } : Room) s m #[(.ref a1), p1, p2, p3, (.long p4), (.long p5)] below meth c s₁ [] 0 0 := Stand.of_body Bd
  have e0 : s₁.heap = h0 := by rw [← hh, Bd.state]; rfl
  have N := Fr.nil Z.heap.size
  show own_Done p.tables e below (own_R (Q_rm6 Z a1 p1 hp1 p2 hp2 p3 hp3 p4 p5 u_provider hu_provider u_broker hu_broker u_symbol hu_symbol u_brokerBuyMax u_brokerSellMax h0) s 0 0) s₁ (entryFrame m #[(.ref a1), p1, p2, p3, (.long p4), (.long p5)] 8)
  refine own_st (T' := s₁) (F' := (mkF m 0 #[.val (.ref a1), .val p1, .val p2, .val p3, .val (.long p4), .second, .val (.long p5), .second] [])) (fun t k => castTop (by rcases ref_cases hp1 with rfl | ⟨_, rfl⟩ <;> rcases ref_cases hp2 with rfl | ⟨_, rfl⟩ <;> rcases ref_cases hp3 with rfl | ⟨_, rfl⟩ <;> rfl) k) ?_
  have KP := Keep.refl h0 [a1]
  refine own_st (T' := s₁) (F' := (mkF m 1 #[.val (.ref a1), .val p1, .val p2, .val p3, .val (.long p4), .second, .val (.long p5), .second] [(.ref a1)])) (fun t k => XS.aloadN X0.here hx rfl (hb hby d6_0) rfl rfl k) ?_
  obtain ⟨v1, _, ⟨T1, L1, k1, n1⟩, -, X1, ⟨Lc1, hQ1, l1, y1, z1⟩, st1⟩ := X0.specialBack hx (y := (⟨"java/lang/Record", "<init>", "()V"⟩ : MethodName)) rfl hown (mvT hZ (hw _ (List.mem_of_getElem? (i := 35) rfl))) (mvT hZ (hw _ (List.mem_of_getElem? (i := 36) rfl))) (mvT hZ (hw _ (List.mem_of_getElem? (i := 39) rfl))) (by decide) (backOf (W := 0) (rm7 l Z a0 CX [] a1 h0 O) hZ (hw _ (List.mem_of_getElem? (i := 39) rfl)) (hw _ (List.mem_of_getElem? (i := 38) rfl)) (by decide) (by decide)) (g := (mkF m 1 #[.val (.ref a1), .val p1, .val p2, .val p3, .val (.long p4), .second, .val (.long p5), .second] [(.ref a1)])) rfl (by rw [hml]; rfl) (Steps.refl _) (a := a1) (argsL := []) (rest := []) (lenOf pd_3 rfl) rfl (by show 2 * 0 + _ ≤ _; exact Nat.le_of_eq rfl) (hb hby d6_1) (fun _ _ => ⟨rfl, e0, (by decide : 0 + 0 ≤ _), (by decide : 0 + 0 ≤ _)⟩)
  dsimp only [Pt.U, Pt.locs, Pt.cells, Pt.slots] at X1 l1 y1 z1 st1 hQ1
  subst l1 y1 z1
  obtain ⟨rfl, N1q, e1⟩ := hQ1
  have N := Fr.app N N1q
  refine own_tr (T' := T1) (F' := (mkF m 4 #[.val (.ref a1), .val p1, .val p2, .val p3, .val (.long p4), .second, .val (.long p5), .second] [])) st1 ?_
  refine own_st (T' := T1) (F' := (mkF m 5 #[.val (.ref a1), .val p1, .val p2, .val p3, .val (.long p4), .second, .val (.long p5), .second] [(.ref a1)])) (fun t k => XS.aloadN X1.here hx rfl (hb hby d6_4) rfl rfl k) ?_
  refine own_st (T' := T1) (F' := (mkF m 6 #[.val (.ref a1), .val p1, .val p2, .val p3, .val (.long p4), .second, .val (.long p5), .second] [p1, (.ref a1)])) (fun t k => XS.aloadN X1.here hx rfl (hb hby d6_5) rfl hp1 k) ?_
  obtain ⟨T2, h2, X2, e2, W2, st2⟩ := putF X1 hx hZ hown (host := "") (Or.inl (hw _ (List.mem_of_getElem? (i := 41) rfl))) Via.refl e1 F_provider E_a1 (Or.inr ⟨(hw _ (List.mem_of_getElem? (i := 42) rfl)), rfl, hnm⟩) (hw _ (List.mem_of_getElem? (i := 27) rfl)) (ty := (.object "java/lang/String")) (by decide) (own_narrow hp1) (own_fits rfl hp1) (g := (mkF m 6 #[.val (.ref a1), .val p1, .val p2, .val p3, .val (.long p4), .second, .val (.long p5), .second] [p1, (.ref a1)])) rfl rfl (hb hby d6_6)
  have E_a1 := E_a1.wr W2
  have F_broker := F_broker.other W2 (Or.inr (slot_ne (Or.inr (hw _ (List.mem_of_getElem? (i := 44) rfl))) (Or.inr (hw _ (List.mem_of_getElem? (i := 42) rfl))) (by decide) (t := (.object "java/lang/String")) (t' := (.object "java/lang/String")) (by decide) (by decide)))
  have F_symbol := F_symbol.other W2 (Or.inr (slot_ne (Or.inr (hw _ (List.mem_of_getElem? (i := 46) rfl))) (Or.inr (hw _ (List.mem_of_getElem? (i := 42) rfl))) (by decide) (t := (.object "java/lang/String")) (t' := (.object "java/lang/String")) (by decide) (by decide)))
  have F_brokerBuyMax := F_brokerBuyMax.other W2 (Or.inr (slot_ne (Or.inr (hw _ (List.mem_of_getElem? (i := 48) rfl))) (Or.inr (hw _ (List.mem_of_getElem? (i := 42) rfl))) (by decide) (t := .long) (t' := (.object "java/lang/String")) (by decide) (by decide)))
  have F_brokerSellMax := F_brokerSellMax.other W2 (Or.inr (slot_ne (Or.inr (hw _ (List.mem_of_getElem? (i := 50) rfl))) (Or.inr (hw _ (List.mem_of_getElem? (i := 42) rfl))) (by decide) (t := .long) (t' := (.object "java/lang/String")) (by decide) (by decide)))
  have O := own_O_wr O W2 g_a1
  have N := Fr.snoc X2 N g_a1
  have KP := KP.wr W2 (Or.inl (List.mem_of_getElem? (i := 0) rfl))
  have F_provider := F_provider.same W2
  refine own_st (T' := T2) (F' := (mkF m 9 #[.val (.ref a1), .val p1, .val p2, .val p3, .val (.long p4), .second, .val (.long p5), .second] [])) st2 ?_
  refine own_st (T' := T2) (F' := (mkF m 10 #[.val (.ref a1), .val p1, .val p2, .val p3, .val (.long p4), .second, .val (.long p5), .second] [(.ref a1)])) (fun t k => XS.aloadN X2.here hx rfl (hb hby d6_9) rfl rfl k) ?_
  refine own_st (T' := T2) (F' := (mkF m 11 #[.val (.ref a1), .val p1, .val p2, .val p3, .val (.long p4), .second, .val (.long p5), .second] [p2, (.ref a1)])) (fun t k => XS.aloadN X2.here hx rfl (hb hby d6_10) rfl hp2 k) ?_
  obtain ⟨T3, h3, X3, e3, W3, st3⟩ := putF X2 hx hZ hown (host := "") (Or.inl (hw _ (List.mem_of_getElem? (i := 43) rfl))) Via.refl e2 F_broker E_a1 (Or.inr ⟨(hw _ (List.mem_of_getElem? (i := 44) rfl)), rfl, hnm⟩) (hw _ (List.mem_of_getElem? (i := 27) rfl)) (ty := (.object "java/lang/String")) (by decide) (own_narrow hp2) (own_fits rfl hp2) (g := (mkF m 11 #[.val (.ref a1), .val p1, .val p2, .val p3, .val (.long p4), .second, .val (.long p5), .second] [p2, (.ref a1)])) rfl rfl (hb hby d6_11)
  have E_a1 := E_a1.wr W3
  have F_provider := F_provider.other W3 (Or.inr (slot_ne (Or.inr (hw _ (List.mem_of_getElem? (i := 42) rfl))) (Or.inr (hw _ (List.mem_of_getElem? (i := 44) rfl))) (by decide) (t := (.object "java/lang/String")) (t' := (.object "java/lang/String")) (by decide) (by decide)))
  have F_symbol := F_symbol.other W3 (Or.inr (slot_ne (Or.inr (hw _ (List.mem_of_getElem? (i := 46) rfl))) (Or.inr (hw _ (List.mem_of_getElem? (i := 44) rfl))) (by decide) (t := (.object "java/lang/String")) (t' := (.object "java/lang/String")) (by decide) (by decide)))
  have F_brokerBuyMax := F_brokerBuyMax.other W3 (Or.inr (slot_ne (Or.inr (hw _ (List.mem_of_getElem? (i := 48) rfl))) (Or.inr (hw _ (List.mem_of_getElem? (i := 44) rfl))) (by decide) (t := .long) (t' := (.object "java/lang/String")) (by decide) (by decide)))
  have F_brokerSellMax := F_brokerSellMax.other W3 (Or.inr (slot_ne (Or.inr (hw _ (List.mem_of_getElem? (i := 50) rfl))) (Or.inr (hw _ (List.mem_of_getElem? (i := 44) rfl))) (by decide) (t := .long) (t' := (.object "java/lang/String")) (by decide) (by decide)))
  have O := own_O_wr O W3 g_a1
  have N := Fr.snoc X3 N g_a1
  have KP := KP.wr W3 (Or.inl (List.mem_of_getElem? (i := 0) rfl))
  have F_broker := F_broker.same W3
  refine own_st (T' := T3) (F' := (mkF m 14 #[.val (.ref a1), .val p1, .val p2, .val p3, .val (.long p4), .second, .val (.long p5), .second] [])) st3 ?_
  refine own_st (T' := T3) (F' := (mkF m 15 #[.val (.ref a1), .val p1, .val p2, .val p3, .val (.long p4), .second, .val (.long p5), .second] [(.ref a1)])) (fun t k => XS.aloadN X3.here hx rfl (hb hby d6_14) rfl rfl k) ?_
  refine own_st (T' := T3) (F' := (mkF m 16 #[.val (.ref a1), .val p1, .val p2, .val p3, .val (.long p4), .second, .val (.long p5), .second] [p3, (.ref a1)])) (fun t k => XS.aloadN X3.here hx rfl (hb hby d6_15) rfl hp3 k) ?_
  obtain ⟨T4, h4, X4, e4, W4, st4⟩ := putF X3 hx hZ hown (host := "") (Or.inl (hw _ (List.mem_of_getElem? (i := 45) rfl))) Via.refl e3 F_symbol E_a1 (Or.inr ⟨(hw _ (List.mem_of_getElem? (i := 46) rfl)), rfl, hnm⟩) (hw _ (List.mem_of_getElem? (i := 27) rfl)) (ty := (.object "java/lang/String")) (by decide) (own_narrow hp3) (own_fits rfl hp3) (g := (mkF m 16 #[.val (.ref a1), .val p1, .val p2, .val p3, .val (.long p4), .second, .val (.long p5), .second] [p3, (.ref a1)])) rfl rfl (hb hby d6_16)
  have E_a1 := E_a1.wr W4
  have F_provider := F_provider.other W4 (Or.inr (slot_ne (Or.inr (hw _ (List.mem_of_getElem? (i := 42) rfl))) (Or.inr (hw _ (List.mem_of_getElem? (i := 46) rfl))) (by decide) (t := (.object "java/lang/String")) (t' := (.object "java/lang/String")) (by decide) (by decide)))
  have F_broker := F_broker.other W4 (Or.inr (slot_ne (Or.inr (hw _ (List.mem_of_getElem? (i := 44) rfl))) (Or.inr (hw _ (List.mem_of_getElem? (i := 46) rfl))) (by decide) (t := (.object "java/lang/String")) (t' := (.object "java/lang/String")) (by decide) (by decide)))
  have F_brokerBuyMax := F_brokerBuyMax.other W4 (Or.inr (slot_ne (Or.inr (hw _ (List.mem_of_getElem? (i := 48) rfl))) (Or.inr (hw _ (List.mem_of_getElem? (i := 46) rfl))) (by decide) (t := .long) (t' := (.object "java/lang/String")) (by decide) (by decide)))
  have F_brokerSellMax := F_brokerSellMax.other W4 (Or.inr (slot_ne (Or.inr (hw _ (List.mem_of_getElem? (i := 50) rfl))) (Or.inr (hw _ (List.mem_of_getElem? (i := 46) rfl))) (by decide) (t := .long) (t' := (.object "java/lang/String")) (by decide) (by decide)))
  have O := own_O_wr O W4 g_a1
  have N := Fr.snoc X4 N g_a1
  have KP := KP.wr W4 (Or.inl (List.mem_of_getElem? (i := 0) rfl))
  have F_symbol := F_symbol.same W4
  refine own_st (T' := T4) (F' := (mkF m 19 #[.val (.ref a1), .val p1, .val p2, .val p3, .val (.long p4), .second, .val (.long p5), .second] [])) st4 ?_
  refine own_st (T' := T4) (F' := (mkF m 20 #[.val (.ref a1), .val p1, .val p2, .val p3, .val (.long p4), .second, .val (.long p5), .second] [(.ref a1)])) (fun t k => XS.aloadN X4.here hx rfl (hb hby d6_19) rfl rfl k) ?_
  refine own_st (T' := T4) (F' := (mkF m 22 #[.val (.ref a1), .val p1, .val p2, .val p3, .val (.long p4), .second, .val (.long p5), .second] [(.long p4), (.ref a1)])) (fun t k => XS.lload X4.here hx rfl (hb hby d6_20) rfl k) ?_
  obtain ⟨T5, h5, X5, e5, W5, st5⟩ := putF X4 hx hZ hown (host := "") (Or.inl (hw _ (List.mem_of_getElem? (i := 47) rfl))) Via.refl e4 F_brokerBuyMax E_a1 (Or.inr ⟨(hw _ (List.mem_of_getElem? (i := 48) rfl)), rfl, hnm⟩) (hw _ (List.mem_of_getElem? (i := 27) rfl)) (ty := .long) (by decide) rfl rfl (g := (mkF m 22 #[.val (.ref a1), .val p1, .val p2, .val p3, .val (.long p4), .second, .val (.long p5), .second] [(.long p4), (.ref a1)])) rfl rfl (hb hby d6_22)
  have E_a1 := E_a1.wr W5
  have F_provider := F_provider.other W5 (Or.inr (slot_ne (Or.inr (hw _ (List.mem_of_getElem? (i := 42) rfl))) (Or.inr (hw _ (List.mem_of_getElem? (i := 48) rfl))) (by decide) (t := (.object "java/lang/String")) (t' := .long) (by decide) (by decide)))
  have F_broker := F_broker.other W5 (Or.inr (slot_ne (Or.inr (hw _ (List.mem_of_getElem? (i := 44) rfl))) (Or.inr (hw _ (List.mem_of_getElem? (i := 48) rfl))) (by decide) (t := (.object "java/lang/String")) (t' := .long) (by decide) (by decide)))
  have F_symbol := F_symbol.other W5 (Or.inr (slot_ne (Or.inr (hw _ (List.mem_of_getElem? (i := 46) rfl))) (Or.inr (hw _ (List.mem_of_getElem? (i := 48) rfl))) (by decide) (t := (.object "java/lang/String")) (t' := .long) (by decide) (by decide)))
  have F_brokerSellMax := F_brokerSellMax.other W5 (Or.inr (slot_ne (Or.inr (hw _ (List.mem_of_getElem? (i := 50) rfl))) (Or.inr (hw _ (List.mem_of_getElem? (i := 48) rfl))) (by decide) (t := .long) (t' := .long) (by decide) (by decide)))
  have O := own_O_wr O W5 g_a1
  have N := Fr.snoc X5 N g_a1
  have KP := KP.wr W5 (Or.inl (List.mem_of_getElem? (i := 0) rfl))
  have F_brokerBuyMax := F_brokerBuyMax.same W5
  refine own_st (T' := T5) (F' := (mkF m 25 #[.val (.ref a1), .val p1, .val p2, .val p3, .val (.long p4), .second, .val (.long p5), .second] [])) st5 ?_
  refine own_st (T' := T5) (F' := (mkF m 26 #[.val (.ref a1), .val p1, .val p2, .val p3, .val (.long p4), .second, .val (.long p5), .second] [(.ref a1)])) (fun t k => XS.aloadN X5.here hx rfl (hb hby d6_25) rfl rfl k) ?_
  refine own_st (T' := T5) (F' := (mkF m 28 #[.val (.ref a1), .val p1, .val p2, .val p3, .val (.long p4), .second, .val (.long p5), .second] [(.long p5), (.ref a1)])) (fun t k => XS.lload X5.here hx rfl (hb hby d6_26) rfl k) ?_
  obtain ⟨T6, h6, X6, e6, W6, st6⟩ := putF X5 hx hZ hown (host := "") (Or.inl (hw _ (List.mem_of_getElem? (i := 49) rfl))) Via.refl e5 F_brokerSellMax E_a1 (Or.inr ⟨(hw _ (List.mem_of_getElem? (i := 50) rfl)), rfl, hnm⟩) (hw _ (List.mem_of_getElem? (i := 27) rfl)) (ty := .long) (by decide) rfl rfl (g := (mkF m 28 #[.val (.ref a1), .val p1, .val p2, .val p3, .val (.long p4), .second, .val (.long p5), .second] [(.long p5), (.ref a1)])) rfl rfl (hb hby d6_28)
  have E_a1 := E_a1.wr W6
  have F_provider := F_provider.other W6 (Or.inr (slot_ne (Or.inr (hw _ (List.mem_of_getElem? (i := 42) rfl))) (Or.inr (hw _ (List.mem_of_getElem? (i := 50) rfl))) (by decide) (t := (.object "java/lang/String")) (t' := .long) (by decide) (by decide)))
  have F_broker := F_broker.other W6 (Or.inr (slot_ne (Or.inr (hw _ (List.mem_of_getElem? (i := 44) rfl))) (Or.inr (hw _ (List.mem_of_getElem? (i := 50) rfl))) (by decide) (t := (.object "java/lang/String")) (t' := .long) (by decide) (by decide)))
  have F_symbol := F_symbol.other W6 (Or.inr (slot_ne (Or.inr (hw _ (List.mem_of_getElem? (i := 46) rfl))) (Or.inr (hw _ (List.mem_of_getElem? (i := 50) rfl))) (by decide) (t := (.object "java/lang/String")) (t' := .long) (by decide) (by decide)))
  have F_brokerBuyMax := F_brokerBuyMax.other W6 (Or.inr (slot_ne (Or.inr (hw _ (List.mem_of_getElem? (i := 48) rfl))) (Or.inr (hw _ (List.mem_of_getElem? (i := 50) rfl))) (by decide) (t := .long) (t' := .long) (by decide) (by decide)))
  have O := own_O_wr O W6 g_a1
  have N := Fr.snoc X6 N g_a1
  have KP := KP.wr W6 (Or.inl (List.mem_of_getElem? (i := 0) rfl))
  have F_brokerSellMax := F_brokerSellMax.same W6
  refine own_st (T' := T6) (F' := (mkF m 31 #[.val (.ref a1), .val p1, .val p2, .val p3, .val (.long p4), .second, .val (.long p5), .second] [])) st6 ?_
  exact own_retV X6 hx Bd.returns (hb hby d6_31) hlk (by show Q_rm6 Z a1 p1 hp1 p2 hp2 p3 hp3 p4 p5 u_provider hu_provider u_broker hu_broker u_symbol hu_symbol u_brokerBuyMax u_brokerSellMax h0 _ T6.heap _; rw [e6]; exact ⟨rfl, N, KP, F_provider, F_broker, F_symbol, F_brokerBuyMax, F_brokerSellMax⟩) (by decide) (by decide)
theorem d8_0 : decode prog_34_method_2_code 0 = .ok (.aload_n 1, 1) := by decide +kernel
theorem d8_1 : decode prog_34_method_2_code 1 = .ok (.getstatic 26, 3) := by decide +kernel
theorem d8_4 : decode prog_34_method_2_code 4 = .ok (.if_acmp .ne 10, 3) := by decide +kernel
theorem d8_7 : decode prog_34_method_2_code 7 = .ok (.aload_n 0, 1) := by decide +kernel
theorem d8_8 : decode prog_34_method_2_code 8 = .ok (.getfield 19, 3) := by decide +kernel
theorem d8_11 : decode prog_34_method_2_code 11 = .ok (.goto 7, 3) := by decide +kernel
theorem d8_14 : decode prog_34_method_2_code 14 = .ok (.aload_n 0, 1) := by decide +kernel
theorem d8_15 : decode prog_34_method_2_code 15 = .ok (.getfield 23, 3) := by decide +kernel
theorem d8_18 : decode prog_34_method_2_code 18 = .ok (.lreturn, 1) := by decide +kernel
set_option maxRecDepth 65536 in
set_option maxHeartbeats 40000000 in
theorem rmM_BUY (l : Launch) (Z : State) (a0 : Array Value) {w_BUY : Addr} {w_SELL : Addr} {v_cs : Int32} (CX : Ctx Z a0 w_BUY w_SELL v_cs) (ws : List Jvm.Cond) (a1 : Addr) (q1 : Int64) (h0 : Heap) (O : Ext Z.heap h0) (F1 : Fld Z h0 a1 "com/example/tidebook/tidebook/engine/Liquidity" "brokerBuyMax" "J" (.long q1)) :
    MetFree l (⟨"com/example/tidebook/tidebook/engine/Liquidity", "most", "(Lcom/example/tidebook/tidebook/engine/Side;)J"⟩ : MethodName) (head1 (Jvm.Cond.code (⟨"com/example/tidebook/tidebook/engine/Liquidity", "most", "(Lcom/example/tidebook/tidebook/engine/Side;)J"⟩ : MethodName) prog_34_method_2_code 2 (some .long) :: ws) ({ frames := 0, cells := 0, slots := 0, locals := 0 } : Room)) (fun a U => a = #[(.ref a1), (.ref w_BUY)] ∧ Z.Warmed39 U.vm ∧ U.heap = h0) (fun _ _ _ _ _ => True) (fun _ U o U' => ∃ v L, o = .returned v ∧ QP Z (.long q1) h0 v U'.heap L ∧ FrameEnd U o U' L ({ frames := 0, cells := 0, slots := 0, locals := 0 } : Room).cells ({ frames := 0, cells := 0, slots := 0, locals := 0 } : Room).slots) := by
  refine MetFree.of_bodySF (plainFor_of_name pn_3) hisR ?_
  intro p e s m args below meth c s₁ Bd hml0 hP hK
  obtain ⟨rfl, hZ, hh⟩ := hP
  have CX0 := CX
  obtain ⟨hw, S_BUY, E_BUY, S_SELL, E_SELL, O_SELL, O_BUY, S_cs, hcs, -⟩ := CX0
  have hx := Bd.exec
  have hby := Bd.bytes
  have hml : c.maxLocals = 2 := hml0
  have hown : s.vm.findClass "com/example/tidebook/tidebook/engine/Liquidity" = some m.cls := findClass_of_methodNamed Bd.named
  have hnm := (name_of_methodNamed Bd.named Bd.method).1
  have hlk : meth.locks = false := BodyLoose.notSynchronized Bd
  have X0 : Stand p l e ({ frames := 0, cells := 0, slots := 0, locals := 0 } : Room) s m #[(.ref a1), (.ref w_BUY)] below meth c s₁ [] 0 0 := Stand.of_body Bd
  have e0 : s₁.heap = h0 := by rw [← hh, Bd.state]; rfl
  have N := Fr.nil Z.heap.size
  show own_Done p.tables e below (own_R (QP Z (.long q1) h0) s 0 0) s₁ (entryFrame m #[(.ref a1), (.ref w_BUY)] 2)
  refine own_st (T' := s₁) (F' := (mkF m 0 #[.val (.ref a1), .val (.ref w_BUY)] [])) (fun t k => castTop (by first | rfl | (simp [entryFrame, mkF, argsToLocals, Value.category]; done)) k) ?_
  refine own_st (T' := s₁) (F' := (mkF m 1 #[.val (.ref a1), .val (.ref w_BUY)] [(.ref w_BUY)])) (fun t k => XS.aloadN X0.here hx rfl (hb hby d8_0) rfl rfl k) ?_
  obtain ⟨T1, X1, e1, st1⟩ := getS2 X0 hx hZ hown (host := "") (Or.inl (hw _ (List.mem_of_getElem? (i := 59) rfl))) Via.refl e0 (S_BUY.ext O) (g := (mkF m 1 #[.val (.ref a1), .val (.ref w_BUY)] [(.ref w_BUY)])) rfl (hb hby d8_1)
  refine own_st (T' := T1) (F' := (mkF m 4 #[.val (.ref a1), .val (.ref w_BUY)] [(.ref w_BUY), (.ref w_BUY)])) st1 ?_
  refine own_st (T' := T1) (F' := (mkF m 7 #[.val (.ref a1), .val (.ref w_BUY)] [])) (fun t k => Jvm.RoadKit.acmp (g := (mkF m 4 #[.val (.ref a1), .val (.ref w_BUY)] [(.ref w_BUY), (.ref w_BUY)])) X1 hx rfl rfl rfl (pc0 := 4) (pc' := 7) (same := true) rfl (hb hby d8_4) rfl (decide_eq_true rfl) (by decide) (by decide) k) ?_
  refine own_st (T' := T1) (F' := (mkF m 8 #[.val (.ref a1), .val (.ref w_BUY)] [(.ref a1)])) (fun t k => XS.aloadN X1.here hx rfl (hb hby d8_7) rfl rfl k) ?_
  obtain ⟨T2, X2, e2, st2⟩ := getF X1 hx hZ hown (host := "") (Or.inl (hw _ (List.mem_of_getElem? (i := 47) rfl))) Via.refl e1 F1 (g := (mkF m 8 #[.val (.ref a1), .val (.ref w_BUY)] [(.ref a1)])) rfl rfl (hb hby d8_8)
  refine own_st (T' := T2) (F' := (mkF m 11 #[.val (.ref a1), .val (.ref w_BUY)] [(.long q1)])) st2 ?_
  refine own_st (T' := T2) (F' := (mkF m 18 #[.val (.ref a1), .val (.ref w_BUY)] [(.long q1)])) (fun t k => XS.goto X2.here hx rfl (pc0 := 11) (pc' := 18) rfl (hb hby d8_11) (by decide) (by decide) k) ?_
  exact own_retJ X2 hx Bd.returns (hb hby d8_18) hlk (by show QP Z (.long q1) h0 _ T2.heap _; rw [e2]; exact ⟨rfl, N, rfl⟩) (by decide) (by decide)
set_option maxRecDepth 65536 in
set_option maxHeartbeats 40000000 in
theorem rmM_SELL (l : Launch) (Z : State) (a0 : Array Value) {w_BUY : Addr} {w_SELL : Addr} {v_cs : Int32} (CX : Ctx Z a0 w_BUY w_SELL v_cs) (ws : List Jvm.Cond) (a1 : Addr) (q1 : Int64) (h0 : Heap) (O : Ext Z.heap h0) (F1 : Fld Z h0 a1 "com/example/tidebook/tidebook/engine/Liquidity" "brokerSellMax" "J" (.long q1)) :
    MetFree l (⟨"com/example/tidebook/tidebook/engine/Liquidity", "most", "(Lcom/example/tidebook/tidebook/engine/Side;)J"⟩ : MethodName) (head1 (Jvm.Cond.code (⟨"com/example/tidebook/tidebook/engine/Liquidity", "most", "(Lcom/example/tidebook/tidebook/engine/Side;)J"⟩ : MethodName) prog_34_method_2_code 2 (some .long) :: ws) ({ frames := 0, cells := 0, slots := 0, locals := 0 } : Room)) (fun a U => a = #[(.ref a1), (.ref w_SELL)] ∧ Z.Warmed39 U.vm ∧ U.heap = h0) (fun _ _ _ _ _ => True) (fun _ U o U' => ∃ v L, o = .returned v ∧ QP Z (.long q1) h0 v U'.heap L ∧ FrameEnd U o U' L ({ frames := 0, cells := 0, slots := 0, locals := 0 } : Room).cells ({ frames := 0, cells := 0, slots := 0, locals := 0 } : Room).slots) := by
  refine MetFree.of_bodySF (plainFor_of_name pn_3) hisR ?_
  intro p e s m args below meth c s₁ Bd hml0 hP hK
  obtain ⟨rfl, hZ, hh⟩ := hP
  have CX0 := CX
  obtain ⟨hw, S_BUY, E_BUY, S_SELL, E_SELL, O_SELL, O_BUY, S_cs, hcs, -⟩ := CX0
  have hx := Bd.exec
  have hby := Bd.bytes
  have hml : c.maxLocals = 2 := hml0
  have hown : s.vm.findClass "com/example/tidebook/tidebook/engine/Liquidity" = some m.cls := findClass_of_methodNamed Bd.named
  have hnm := (name_of_methodNamed Bd.named Bd.method).1
  have hlk : meth.locks = false := BodyLoose.notSynchronized Bd
  have X0 : Stand p l e ({ frames := 0, cells := 0, slots := 0, locals := 0 } : Room) s m #[(.ref a1), (.ref w_SELL)] below meth c s₁ [] 0 0 := Stand.of_body Bd
  have e0 : s₁.heap = h0 := by rw [← hh, Bd.state]; rfl
  have N := Fr.nil Z.heap.size
  show own_Done p.tables e below (own_R (QP Z (.long q1) h0) s 0 0) s₁ (entryFrame m #[(.ref a1), (.ref w_SELL)] 2)
  refine own_st (T' := s₁) (F' := (mkF m 0 #[.val (.ref a1), .val (.ref w_SELL)] [])) (fun t k => castTop (by first | rfl | (simp [entryFrame, mkF, argsToLocals, Value.category]; done)) k) ?_
  refine own_st (T' := s₁) (F' := (mkF m 1 #[.val (.ref a1), .val (.ref w_SELL)] [(.ref w_SELL)])) (fun t k => XS.aloadN X0.here hx rfl (hb hby d8_0) rfl rfl k) ?_
  obtain ⟨T1, X1, e1, st1⟩ := getS2 X0 hx hZ hown (host := "") (Or.inl (hw _ (List.mem_of_getElem? (i := 59) rfl))) Via.refl e0 (S_BUY.ext O) (g := (mkF m 1 #[.val (.ref a1), .val (.ref w_SELL)] [(.ref w_SELL)])) rfl (hb hby d8_1)
  refine own_st (T' := T1) (F' := (mkF m 4 #[.val (.ref a1), .val (.ref w_SELL)] [(.ref w_BUY), (.ref w_SELL)])) st1 ?_
  refine own_st (T' := T1) (F' := (mkF m 14 #[.val (.ref a1), .val (.ref w_SELL)] [])) (fun t k => Jvm.RoadKit.acmp (g := (mkF m 4 #[.val (.ref a1), .val (.ref w_SELL)] [(.ref w_BUY), (.ref w_SELL)])) X1 hx rfl rfl rfl (pc0 := 4) (pc' := 14) (same := false) rfl (hb hby d8_4) rfl (decide_eq_false fun q => (O_SELL.ne O_BUY (by decide)) (Value.ref.inj q)) (by decide) (by decide) k) ?_
  refine own_st (T' := T1) (F' := (mkF m 15 #[.val (.ref a1), .val (.ref w_SELL)] [(.ref a1)])) (fun t k => XS.aloadN X1.here hx rfl (hb hby d8_14) rfl rfl k) ?_
  obtain ⟨T2, X2, e2, st2⟩ := getF X1 hx hZ hown (host := "") (Or.inl (hw _ (List.mem_of_getElem? (i := 49) rfl))) Via.refl e1 F1 (g := (mkF m 15 #[.val (.ref a1), .val (.ref w_SELL)] [(.ref a1)])) rfl rfl (hb hby d8_15)
  refine own_st (T' := T2) (F' := (mkF m 18 #[.val (.ref a1), .val (.ref w_SELL)] [(.long q1)])) st2 ?_
  exact own_retJ X2 hx Bd.returns (hb hby d8_18) hlk (by show QP Z (.long q1) h0 _ T2.heap _; rw [e2]; exact ⟨rfl, N, rfl⟩) (by decide) (by decide)
theorem pn_4 : plainName "com/example/tidebook/tidebook/engine/LiquidityMostPinLaw" = true := by first | (simp [plainName, overriddenIn]; done) | decide +kernel
theorem pd_4 : parseMethodDescriptor "(C)Ljava/lang/String;" = some ⟨[.char], some (.object "java/lang/String")⟩ := by decide +kernel
theorem pd_5 : parseMethodDescriptor "(Ljava/lang/String;Ljava/lang/String;Ljava/lang/String;JJ)V" = some ⟨[(.object "java/lang/String"), (.object "java/lang/String"), (.object "java/lang/String"), .long, .long], none⟩ := by decide +kernel
theorem pd_6 : parseMethodDescriptor "(Lcom/example/tidebook/tidebook/engine/Side;)J" = some ⟨[(.object "com/example/tidebook/tidebook/engine/Side")], some .long⟩ := by decide +kernel
set_option maxRecDepth 65536 in
set_option maxHeartbeats 40000000 in
theorem rm0 (l : Launch) (Z : State) (a0 : Array Value) {w_BUY : Addr} {w_SELL : Addr} {v_cs : Int32} (CX : Ctx Z a0 w_BUY w_SELL v_cs) (ws : List Jvm.Cond) (x0 : Int64) (x1 : Int64) (x2 : Int32) (x3 : Int32) (h0 : Heap) (O : Ext Z.heap h0)  :
    MetFree l x (head1 (Jvm.Cond.code x code maxLocals ret :: ws) room_1) (fun a U => a = #[(.long x0), (.long x1), (.int x2), (.int x3)] ∧ Z.Warmed39 U.vm ∧ U.heap = h0) (fun _ _ _ _ _ => True) (fun _ U o U' => ∃ v L, o = .returned v ∧ Q0 Z v U'.heap L ∧ ReturnedEndW U o U' L room_1.cells room_1.slots) := by
  refine MetFree.of_bodySF (plainFor_of_name pn_4) hisR ?_
  intro p e s m args below meth c s₁ Bd hml0 hP hK
  obtain ⟨rfl, hZ, hh⟩ := hP
  have CX0 := CX
  obtain ⟨hw, S_BUY, E_BUY, S_SELL, E_SELL, O_SELL, O_BUY, S_cs, hcs, -⟩ := CX0
  have hx := Bd.exec
  have hby := Bd.bytes
  have hml : c.maxLocals = 13 := hml0
  have hown : s.vm.findClass "com/example/tidebook/tidebook/engine/LiquidityMostPinLaw" = some m.cls := findClass_of_methodNamed Bd.named
  have hnm := (name_of_methodNamed Bd.named Bd.method).1
  have hlk : meth.locks = false := BodyLoose.notSynchronized Bd
  have X0 : Stand p l e room_1 (s.setVm s.vm) m #[(.long x0), (.long x1), (.int x2), (.int x3)] below meth c s₁ [] 0 0 := Stand.of_body Bd
  have e0 : s₁.heap = h0 := by rw [← hh, Bd.state]; rfl
  have N := Fr.nil Z.heap.size
  have wS : ∀ a ∈ Bundle.stringAtoms, a.before a0 Z = true := by
    intro a ha
    simp only [Bundle.stringAtoms, List.mem_cons, List.not_mem_nil, or_false] at ha
    rcases ha with rfl | rfl | rfl | rfl | rfl | rfl | rfl
    · exact (hw _ (List.mem_of_getElem? (i := 2) rfl))
    · exact (hw _ (List.mem_of_getElem? (i := 10) rfl))
    · exact (hw _ (List.mem_of_getElem? (i := 14) rfl))
    · exact (hw _ (List.mem_of_getElem? (i := 23) rfl))
    · exact (hw _ (List.mem_of_getElem? (i := 25) rfl))
    · exact (hw _ (List.mem_of_getElem? (i := 30) rfl))
    · exact (hw _ (List.mem_of_getElem? (i := 31) rfl))
  have hS : s.Since s.vm 0 := State.WarmedH.since (State.WarmedH.refl s) 0
  have hk : 0 ≤ h0.size := Nat.zero_le _
  show own_Done p.tables e below (own_RW (Q0 Z) s 24 1152) s₁ (entryFrame m #[(.long x0), (.long x1), (.int x2), (.int x3)] maxLocals)
  refine own_st (T' := s₁) (F' := (mkF m 0 #[.val (.long x0), .second, .val (.long x1), .second, .val (.int x2), .val (.int x3), .unset, .unset, .unset, .unset, .unset, .unset, .unset] [])) (fun t k => castTop (by first | rfl | (simp [entryFrame, mkF, argsToLocals, Value.category, maxLocals]; done)) k) ?_
  refine own_st (T' := s₁) (F' := (mkF m 2 #[.val (.long x0), .second, .val (.long x1), .second, .val (.int x2), .val (.int x3), .unset, .unset, .unset, .unset, .unset, .unset, .unset] [(.int x2)])) (fun t k => XS.iload X0.here hx rfl (hb hby at_0) rfl k) ?_
  refine own_st (T' := s₁) (F' := (mkF m 5 #[.val (.long x0), .second, .val (.long x1), .second, .val (.int x2), .val (.int x3), .unset, .unset, .unset, .unset, .unset, .unset, .unset] [(.int (255 : Int32)), (.int x2)])) (fun t k => XS.sipush X0.here hx rfl (hb hby at_2) k) ?_
  refine own_st (T' := s₁) (F' := (mkF m 6 #[.val (.long x0), .second, .val (.long x1), .second, .val (.int x2), .val (.int x3), .unset, .unset, .unset, .unset, .unset, .unset, .unset] [(.int (x2 &&& (255 : Int32)))])) (fun t k => XS.iand X0.here hx rfl (hb hby at_5) rfl k) ?_
  refine own_st (T' := s₁) (F' := (mkF m 7 #[.val (.long x0), .second, .val (.long x1), .second, .val (.int x2), .val (.int x3), .unset, .unset, .unset, .unset, .unset, .unset, .unset] [(.int ((x2 &&& (255 : Int32)).toUInt32.toUInt16.toUInt32.toInt32))])) (fun t k => XS.i2c X0.here hx rfl (hb hby at_6) rfl k) ?_
  obtain ⟨v1, _, ⟨T1, L1, k1, n1⟩, -, X1, ⟨Lc1, hQ1, l1, y1, z1⟩, st1⟩ := Jvm.LawKit.callS X0 hx (y := (⟨"java/lang/String", "valueOf", "(C)Ljava/lang/String;"⟩ : MethodName)) hown (mvT hZ (hw _ (List.mem_of_getElem? (i := 0) rfl))) (mvT hZ (hw _ (List.mem_of_getElem? (i := 1) rfl))) (mvT hZ (hw _ (List.mem_of_getElem? (i := 2) rfl))) (mvT hZ (hw _ (List.mem_of_getElem? (i := 3) rfl))) (by decide) (backOf (W := 0) (rm1 l Z a0 CX [] ((x2 &&& (255 : Int32)).toUInt32.toUInt16.toUInt32.toInt32) h0 O (own_le255 x2)) hZ (hw _ (List.mem_of_getElem? (i := 3) rfl)) (hw _ (List.mem_of_getElem? (i := 2) rfl)) (by decide) (by decide)) (g := (mkF m 7 #[.val (.long x0), .second, .val (.long x1), .second, .val (.int x2), .val (.int x3), .unset, .unset, .unset, .unset, .unset, .unset, .unset] [(.int ((x2 &&& (255 : Int32)).toUInt32.toUInt16.toUInt32.toInt32))])) rfl (by rw [hml]; rfl) (argsL := [(.int ((x2 &&& (255 : Int32)).toUInt32.toUInt16.toUInt32.toInt32))]) (rest := []) (lenOf pd_4 rfl) rfl (by show 2 * 0 + _ ≤ _; exact Nat.le_of_eq rfl) (hb hby at_7) (fun _ _ => ⟨rfl, e0, (by decide : 0 + 2 ≤ _), (by decide : 0 + 5 ≤ _)⟩)
  dsimp only [Pt.U, Pt.locs, Pt.cells, Pt.slots] at X1 l1 y1 z1 st1 hQ1
  subst l1 y1 z1
  obtain ⟨r1, rfl, N1q, E1⟩ := hQ1
  have N := Fr.app N N1q
  have O := own_ext_trans O E1
  have hk := Nat.le_trans hk E1.1
  refine own_st (T' := T1) (F' := (mkF m 10 #[.val (.long x0), .second, .val (.long x1), .second, .val (.int x2), .val (.int x3), .unset, .unset, .unset, .unset, .unset, .unset, .unset] [(.ref r1)])) st1 ?_
  refine own_st (T' := T1) (F' := (mkF m 12 #[.val (.long x0), .second, .val (.long x1), .second, .val (.int x2), .val (.int x3), .val (.ref r1), .unset, .unset, .unset, .unset, .unset, .unset] [])) (fun t k => XS.astore X1.here hx rfl (hb hby at_10) rfl rfl (l' := #[.val (.long x0), .second, .val (.long x1), .second, .val (.int x2), .val (.int x3), .val (.ref r1), .unset, .unset, .unset, .unset, .unset, .unset]) rfl k) ?_
  refine own_st (T' := T1) (F' := (mkF m 14 #[.val (.long x0), .second, .val (.long x1), .second, .val (.int x2), .val (.int x3), .val (.ref r1), .unset, .unset, .unset, .unset, .unset, .unset] [(.int x3)])) (fun t k => XS.iload X1.here hx rfl (hb hby at_12) rfl k) ?_
  refine own_st (T' := T1) (F' := (mkF m 17 #[.val (.long x0), .second, .val (.long x1), .second, .val (.int x2), .val (.int x3), .val (.ref r1), .unset, .unset, .unset, .unset, .unset, .unset] [(.int (255 : Int32)), (.int x3)])) (fun t k => XS.sipush X1.here hx rfl (hb hby at_14) k) ?_
  refine own_st (T' := T1) (F' := (mkF m 18 #[.val (.long x0), .second, .val (.long x1), .second, .val (.int x2), .val (.int x3), .val (.ref r1), .unset, .unset, .unset, .unset, .unset, .unset] [(.int (x3 &&& (255 : Int32)))])) (fun t k => XS.iand X1.here hx rfl (hb hby at_17) rfl k) ?_
  refine own_st (T' := T1) (F' := (mkF m 19 #[.val (.long x0), .second, .val (.long x1), .second, .val (.int x2), .val (.int x3), .val (.ref r1), .unset, .unset, .unset, .unset, .unset, .unset] [(.int ((x3 &&& (255 : Int32)).toUInt32.toUInt16.toUInt32.toInt32))])) (fun t k => XS.i2c X1.here hx rfl (hb hby at_18) rfl k) ?_
  obtain ⟨v2, _, ⟨T2, L2, k2, n2⟩, -, X2, ⟨Lc2, hQ2, l2, y2, z2⟩, st2⟩ := Jvm.LawKit.callS X1 hx (y := (⟨"java/lang/String", "valueOf", "(C)Ljava/lang/String;"⟩ : MethodName)) hown (mvT hZ (hw _ (List.mem_of_getElem? (i := 0) rfl))) (mvT hZ (hw _ (List.mem_of_getElem? (i := 1) rfl))) (mvT hZ (hw _ (List.mem_of_getElem? (i := 2) rfl))) (mvT hZ (hw _ (List.mem_of_getElem? (i := 3) rfl))) (by decide) (backOf (W := 0) (rm1 l Z a0 CX [] ((x3 &&& (255 : Int32)).toUInt32.toUInt16.toUInt32.toInt32) T1.heap O (own_le255 x3)) hZ (hw _ (List.mem_of_getElem? (i := 3) rfl)) (hw _ (List.mem_of_getElem? (i := 2) rfl)) (by decide) (by decide)) (g := (mkF m 19 #[.val (.long x0), .second, .val (.long x1), .second, .val (.int x2), .val (.int x3), .val (.ref r1), .unset, .unset, .unset, .unset, .unset, .unset] [(.int ((x3 &&& (255 : Int32)).toUInt32.toUInt16.toUInt32.toInt32))])) rfl (by rw [hml]; rfl) (argsL := [(.int ((x3 &&& (255 : Int32)).toUInt32.toUInt16.toUInt32.toInt32))]) (rest := []) (lenOf pd_4 rfl) rfl (by show 2 * 0 + _ ≤ _; exact Nat.le_of_eq rfl) (hb hby at_19) (fun _ _ => ⟨rfl, rfl, (by decide : 2 + 2 ≤ _), (by decide : 5 + 5 ≤ _)⟩)
  dsimp only [Pt.U, Pt.locs, Pt.cells, Pt.slots] at X2 l2 y2 z2 st2 hQ2
  subst l2 y2 z2
  obtain ⟨r2, rfl, N2q, E2⟩ := hQ2
  have N := Fr.app N N2q
  have O := own_ext_trans O E2
  have hk := Nat.le_trans hk E2.1
  refine own_st (T' := T2) (F' := (mkF m 22 #[.val (.long x0), .second, .val (.long x1), .second, .val (.int x2), .val (.int x3), .val (.ref r1), .unset, .unset, .unset, .unset, .unset, .unset] [(.ref r2)])) st2 ?_
  refine own_st (T' := T2) (F' := (mkF m 24 #[.val (.long x0), .second, .val (.long x1), .second, .val (.int x2), .val (.int x3), .val (.ref r1), .val (.ref r2), .unset, .unset, .unset, .unset, .unset] [])) (fun t k => XS.astore X2.here hx rfl (hb hby at_22) rfl rfl (l' := #[.val (.long x0), .second, .val (.long x1), .second, .val (.int x2), .val (.int x3), .val (.ref r1), .val (.ref r2), .unset, .unset, .unset, .unset, .unset]) rfl k) ?_
  obtain ⟨T3, h3, X3, e3, E3, A3, D3, U3, st3⟩ := newO X2 hx hZ hown (hw _ (List.mem_of_getElem? (i := 26) rfl)) (hw _ (List.mem_of_getElem? (i := 27) rfl)) (hw _ (List.mem_of_getElem? (i := 28) rfl)) rfl (g := (mkF m 24 #[.val (.long x0), .second, .val (.long x1), .second, .val (.int x2), .val (.int x3), .val (.ref r1), .val (.ref r2), .unset, .unset, .unset, .unset, .unset] [])) rfl (hb hby at_24) (by decide) (by decide)
  obtain ⟨b3, g3⟩ : ∃ z, z = T2.heap.size := ⟨_, rfl⟩
  rw [← g3] at A3 D3 U3 st3
  have g_b3 : Z.heap.size ≤ b3 := Nat.le_trans O.1 (Nat.le_of_eq g3.symm)
  have O := own_ext_trans O E3
  have hk := Nat.le_trans hk E3.1
  have E_b3 := A3
  have F_provider_b3 : Fld Z h3 b3 "com/example/tidebook/tidebook/engine/Liquidity" "provider" "Ljava/lang/String;" .null := D3 (Or.inr (hw _ (List.mem_of_getElem? (i := 42) rfl))) (ty := (.object "java/lang/String")) (by decide)
  have F_broker_b3 : Fld Z h3 b3 "com/example/tidebook/tidebook/engine/Liquidity" "broker" "Ljava/lang/String;" .null := D3 (Or.inr (hw _ (List.mem_of_getElem? (i := 44) rfl))) (ty := (.object "java/lang/String")) (by decide)
  have F_symbol_b3 : Fld Z h3 b3 "com/example/tidebook/tidebook/engine/Liquidity" "symbol" "Ljava/lang/String;" .null := D3 (Or.inr (hw _ (List.mem_of_getElem? (i := 46) rfl))) (ty := (.object "java/lang/String")) (by decide)
  have F_brokerBuyMax_b3 : Fld Z h3 b3 "com/example/tidebook/tidebook/engine/Liquidity" "brokerBuyMax" "J" (.long (0 : Int64)) := D3 (Or.inr (hw _ (List.mem_of_getElem? (i := 48) rfl))) (ty := .long) (by decide)
  have F_brokerSellMax_b3 : Fld Z h3 b3 "com/example/tidebook/tidebook/engine/Liquidity" "brokerSellMax" "J" (.long (0 : Int64)) := D3 (Or.inr (hw _ (List.mem_of_getElem? (i := 50) rfl))) (ty := .long) (by decide)
  refine own_st (T' := T3) (F' := (mkF m 27 #[.val (.long x0), .second, .val (.long x1), .second, .val (.int x2), .val (.int x3), .val (.ref r1), .val (.ref r2), .unset, .unset, .unset, .unset, .unset] [(.ref b3)])) st3 ?_
  refine own_st (T' := T3) (F' := (mkF m 28 #[.val (.long x0), .second, .val (.long x1), .second, .val (.int x2), .val (.int x3), .val (.ref r1), .val (.ref r2), .unset, .unset, .unset, .unset, .unset] [(.ref b3), (.ref b3)])) (fun t k => XS.dup X3.here hx rfl (hb hby at_27) rfl rfl k) ?_
  refine own_st (T' := T3) (F' := (mkF m 30 #[.val (.long x0), .second, .val (.long x1), .second, .val (.int x2), .val (.int x3), .val (.ref r1), .val (.ref r2), .unset, .unset, .unset, .unset, .unset] [(.ref r1), (.ref b3), (.ref b3)])) (fun t k => XS.aload X3.here hx rfl (hb hby at_28) rfl rfl k) ?_
  refine own_st (T' := T3) (F' := (mkF m 32 #[.val (.long x0), .second, .val (.long x1), .second, .val (.int x2), .val (.int x3), .val (.ref r1), .val (.ref r2), .unset, .unset, .unset, .unset, .unset] [(.ref r2), (.ref r1), (.ref b3), (.ref b3)])) (fun t k => XS.aload X3.here hx rfl (hb hby at_30) rfl rfl k) ?_
  obtain ⟨a4, T4, h4, ks4, X4, e4, E4, hS, hk4, hZ, hown, st4⟩ := ldcS X3 hx hZ hown (hw _ (List.mem_of_getElem? (i := 29) rfl)) wS e3 hS hk (g := (mkF m 32 #[.val (.long x0), .second, .val (.long x1), .second, .val (.int x2), .val (.int x3), .val (.ref r1), .val (.ref r2), .unset, .unset, .unset, .unset, .unset] [(.ref r2), (.ref r1), (.ref b3), (.ref b3)])) rfl (hb hby at_32) (n := 4) (by first | decide | simp | rfl) (by first | decide | simp | rfl) (by decide) (by decide)
  have E_b3 := E_b3.ext E4
  have F_provider_b3 := F_provider_b3.ext E4
  have F_broker_b3 := F_broker_b3.ext E4
  have F_symbol_b3 := F_symbol_b3.ext E4
  have F_brokerBuyMax_b3 := F_brokerBuyMax_b3.ext E4
  have F_brokerSellMax_b3 := F_brokerSellMax_b3.ext E4
  have O := own_ext_trans O E4
  have hk := Nat.le_trans hk E4.1
  have hk := hk4
  refine own_st (T' := T4) (F' := (mkF m 34 #[.val (.long x0), .second, .val (.long x1), .second, .val (.int x2), .val (.int x3), .val (.ref r1), .val (.ref r2), .unset, .unset, .unset, .unset, .unset] [(.ref a4), (.ref r2), (.ref r1), (.ref b3), (.ref b3)])) st4 ?_
  refine own_st (T' := T4) (F' := (mkF m 35 #[.val (.long x0), .second, .val (.long x1), .second, .val (.int x2), .val (.int x3), .val (.ref r1), .val (.ref r2), .unset, .unset, .unset, .unset, .unset] [(.long x0), (.ref a4), (.ref r2), (.ref r1), (.ref b3), (.ref b3)])) (fun t k => XS.lloadN X4.here hx rfl (hb hby at_34) rfl k) ?_
  refine own_st (T' := T4) (F' := (mkF m 36 #[.val (.long x0), .second, .val (.long x1), .second, .val (.int x2), .val (.int x3), .val (.ref r1), .val (.ref r2), .unset, .unset, .unset, .unset, .unset] [(.long x1), (.long x0), (.ref a4), (.ref r2), (.ref r1), (.ref b3), (.ref b3)])) (fun t k => XS.lloadN X4.here hx rfl (hb hby at_35) rfl k) ?_
  obtain ⟨v5, _, ⟨T5, L5, k5, n5⟩, -, X5, ⟨Lc5, hQ5, l5, y5, z5⟩, st5⟩ := X4.specialBack hx (y := (⟨"com/example/tidebook/tidebook/engine/Liquidity", "<init>", "(Ljava/lang/String;Ljava/lang/String;Ljava/lang/String;JJ)V"⟩ : MethodName)) rfl hown (mvT hZ (hw _ (List.mem_of_getElem? (i := 32) rfl))) (mvT hZ (hw _ (List.mem_of_getElem? (i := 33) rfl))) (mvT hZ (hw _ (List.mem_of_getElem? (i := 34) rfl))) (by decide) (backOf (W := 1) (rm6 l Z a0 CX [] b3 (.ref r1) rfl (.ref r2) rfl (.ref a4) rfl x0 x1 .null rfl .null rfl .null rfl (0 : Int64) (0 : Int64) h4 O E_b3 g_b3 F_provider_b3 F_broker_b3 F_symbol_b3 F_brokerBuyMax_b3 F_brokerSellMax_b3) hZ (hw _ (List.mem_of_getElem? (i := 34) rfl)) (hw _ (List.mem_of_getElem? (i := 28) rfl)) (by decide) (by decide)) (g := (mkF m 36 #[.val (.long x0), .second, .val (.long x1), .second, .val (.int x2), .val (.int x3), .val (.ref r1), .val (.ref r2), .unset, .unset, .unset, .unset, .unset] [(.long x1), (.long x0), (.ref a4), (.ref r2), (.ref r1), (.ref b3), (.ref b3)])) rfl (by rw [hml]; rfl) (Steps.refl _) (a := b3) (argsL := [(.ref r1), (.ref r2), (.ref a4), (.long x0), (.long x1)]) (rest := [(.ref b3)]) (lenOf pd_5 rfl) rfl (by show 2 * 0 + _ ≤ _; exact Nat.le_of_eq rfl) (hb hby at_36) (fun _ _ => ⟨rfl, e4, (by decide : 7 + 0 ≤ _), (by decide : 23 + 0 ≤ _)⟩)
  dsimp only [Pt.U, Pt.locs, Pt.cells, Pt.slots] at X5 l5 y5 z5 st5 hQ5
  subst l5 y5 z5
  obtain ⟨rfl, N5q, K5, F_provider_b3, F_broker_b3, F_symbol_b3, F_brokerBuyMax_b3, F_brokerSellMax_b3⟩ := hQ5
  have N := Fr.app N N5q
  have E_b3 := E_b3.keep K5
  have O := own_O_keep O K5 (allS g_b3 all0)
  have hk := Nat.le_trans hk K5.1
  refine own_tr (T' := T5) (F' := (mkF m 39 #[.val (.long x0), .second, .val (.long x1), .second, .val (.int x2), .val (.int x3), .val (.ref r1), .val (.ref r2), .unset, .unset, .unset, .unset, .unset] [(.ref b3)])) st5 ?_
  refine own_st (T' := T5) (F' := (mkF m 41 #[.val (.long x0), .second, .val (.long x1), .second, .val (.int x2), .val (.int x3), .val (.ref r1), .val (.ref r2), .val (.ref b3), .unset, .unset, .unset, .unset] [])) (fun t k => XS.astore X5.here hx rfl (hb hby at_39) rfl rfl (l' := #[.val (.long x0), .second, .val (.long x1), .second, .val (.int x2), .val (.int x3), .val (.ref r1), .val (.ref r2), .val (.ref b3), .unset, .unset, .unset, .unset]) rfl k) ?_
  refine own_st (T' := T5) (F' := (mkF m 43 #[.val (.long x0), .second, .val (.long x1), .second, .val (.int x2), .val (.int x3), .val (.ref r1), .val (.ref r2), .val (.ref b3), .unset, .unset, .unset, .unset] [(.ref b3)])) (fun t k => XS.aload X5.here hx rfl (hb hby at_41) rfl rfl k) ?_
  obtain ⟨T6, X6, e6, st6⟩ := getS2 X5 hx hZ hown (host := "") (Or.inl (hw _ (List.mem_of_getElem? (i := 51) rfl))) Via.refl rfl (S_BUY.ext O) (g := (mkF m 43 #[.val (.long x0), .second, .val (.long x1), .second, .val (.int x2), .val (.int x3), .val (.ref r1), .val (.ref r2), .val (.ref b3), .unset, .unset, .unset, .unset] [(.ref b3)])) rfl (hb hby at_43)
  refine own_st (T' := T6) (F' := (mkF m 46 #[.val (.long x0), .second, .val (.long x1), .second, .val (.int x2), .val (.int x3), .val (.ref r1), .val (.ref r2), .val (.ref b3), .unset, .unset, .unset, .unset] [(.ref w_BUY), (.ref b3)])) st6 ?_
  obtain ⟨cq7, kq7, q7a, q7b, q7c⟩ := isOf hZ e6 E_b3
  obtain ⟨v7, _, ⟨T7, L7, k7, n7⟩, -, X7, ⟨Lc7, hQ7, l7, y7, z7⟩, st7⟩ := X6.virtualBack hx (y := (⟨"com/example/tidebook/tidebook/engine/Liquidity", "most", "(Lcom/example/tidebook/tidebook/engine/Side;)J"⟩ : MethodName)) (z := (⟨"com/example/tidebook/tidebook/engine/Liquidity", "most", "(Lcom/example/tidebook/tidebook/engine/Side;)J"⟩ : MethodName)) hown (mvT hZ (hw _ (List.mem_of_getElem? (i := 54) rfl))) (mvT hZ (hw _ (List.mem_of_getElem? (i := 55) rfl))) (notFace_of_selects (args := #[]) (mvT hZ (hw _ (List.mem_of_getElem? (i := 57) rfl)))) (mvT hZ (hw _ (List.mem_of_getElem? (i := 57) rfl))) (mvT hZ (hw _ (List.mem_of_getElem? (i := 56) rfl))) (by decide) (backOf (W := 0) (rmM_BUY l Z a0 CX [] b3 x0 T5.heap O F_brokerBuyMax_b3) hZ (hw _ (List.mem_of_getElem? (i := 58) rfl)) (hw _ (List.mem_of_getElem? (i := 28) rfl)) (by decide) (by decide)) q7a q7c (g := (mkF m 46 #[.val (.long x0), .second, .val (.long x1), .second, .val (.int x2), .val (.int x3), .val (.ref r1), .val (.ref r2), .val (.ref b3), .unset, .unset, .unset, .unset] [(.ref w_BUY), (.ref b3)])) rfl (by rw [hml]; rfl) (Steps.refl _) (argsL := [(.ref w_BUY)]) (rest := []) (lenOf pd_6 rfl) rfl (by show 2 * 0 + _ ≤ _; exact Nat.le_of_eq rfl) (hb hby at_46) (fun _ _ => ⟨rfl, e6, (by decide : 7 + 0 ≤ _), (by decide : 23 + 0 ≤ _)⟩)
  dsimp only [Pt.U, Pt.locs, Pt.cells, Pt.slots] at X7 l7 y7 z7 st7 hQ7
  subst l7 y7 z7
  obtain ⟨rfl, N7q, e7⟩ := hQ7
  have N := Fr.app N N7q
  refine own_tr (T' := T7) (F' := (mkF m 49 #[.val (.long x0), .second, .val (.long x1), .second, .val (.int x2), .val (.int x3), .val (.ref r1), .val (.ref r2), .val (.ref b3), .unset, .unset, .unset, .unset] [(.long x0)])) st7 ?_
  refine own_st (T' := T7) (F' := (mkF m 51 #[.val (.long x0), .second, .val (.long x1), .second, .val (.int x2), .val (.int x3), .val (.ref r1), .val (.ref r2), .val (.ref b3), .val (.long x0), .second, .unset, .unset] [])) (fun t k => XS.lstore X7.here hx rfl (hb hby at_49) rfl (l' := #[.val (.long x0), .second, .val (.long x1), .second, .val (.int x2), .val (.int x3), .val (.ref r1), .val (.ref r2), .val (.ref b3), .val (.long x0), .second, .unset, .unset]) rfl k) ?_
  refine own_st (T' := T7) (F' := (mkF m 53 #[.val (.long x0), .second, .val (.long x1), .second, .val (.int x2), .val (.int x3), .val (.ref r1), .val (.ref r2), .val (.ref b3), .val (.long x0), .second, .unset, .unset] [(.ref b3)])) (fun t k => XS.aload X7.here hx rfl (hb hby at_51) rfl rfl k) ?_
  obtain ⟨T8, X8, e8, st8⟩ := getS2 X7 hx hZ hown (host := "") (Or.inl (hw _ (List.mem_of_getElem? (i := 60) rfl))) Via.refl e7 (S_SELL.ext O) (g := (mkF m 53 #[.val (.long x0), .second, .val (.long x1), .second, .val (.int x2), .val (.int x3), .val (.ref r1), .val (.ref r2), .val (.ref b3), .val (.long x0), .second, .unset, .unset] [(.ref b3)])) rfl (hb hby at_53)
  refine own_st (T' := T8) (F' := (mkF m 56 #[.val (.long x0), .second, .val (.long x1), .second, .val (.int x2), .val (.int x3), .val (.ref r1), .val (.ref r2), .val (.ref b3), .val (.long x0), .second, .unset, .unset] [(.ref w_SELL), (.ref b3)])) st8 ?_
  obtain ⟨cq9, kq9, q9a, q9b, q9c⟩ := isOf hZ e8 E_b3
  obtain ⟨v9, _, ⟨T9, L9, k9, n9⟩, -, X9, ⟨Lc9, hQ9, l9, y9, z9⟩, st9⟩ := X8.virtualBack hx (y := (⟨"com/example/tidebook/tidebook/engine/Liquidity", "most", "(Lcom/example/tidebook/tidebook/engine/Side;)J"⟩ : MethodName)) (z := (⟨"com/example/tidebook/tidebook/engine/Liquidity", "most", "(Lcom/example/tidebook/tidebook/engine/Side;)J"⟩ : MethodName)) hown (mvT hZ (hw _ (List.mem_of_getElem? (i := 54) rfl))) (mvT hZ (hw _ (List.mem_of_getElem? (i := 55) rfl))) (notFace_of_selects (args := #[]) (mvT hZ (hw _ (List.mem_of_getElem? (i := 57) rfl)))) (mvT hZ (hw _ (List.mem_of_getElem? (i := 57) rfl))) (mvT hZ (hw _ (List.mem_of_getElem? (i := 56) rfl))) (by decide) (backOf (W := 0) (rmM_SELL l Z a0 CX [] b3 x1 T5.heap O F_brokerSellMax_b3) hZ (hw _ (List.mem_of_getElem? (i := 58) rfl)) (hw _ (List.mem_of_getElem? (i := 28) rfl)) (by decide) (by decide)) q9a q9c (g := (mkF m 56 #[.val (.long x0), .second, .val (.long x1), .second, .val (.int x2), .val (.int x3), .val (.ref r1), .val (.ref r2), .val (.ref b3), .val (.long x0), .second, .unset, .unset] [(.ref w_SELL), (.ref b3)])) rfl (by rw [hml]; rfl) (Steps.refl _) (argsL := [(.ref w_SELL)]) (rest := []) (lenOf pd_6 rfl) rfl (by show 2 * 0 + _ ≤ _; exact Nat.le_of_eq rfl) (hb hby at_56) (fun _ _ => ⟨rfl, e8, (by decide : 7 + 0 ≤ _), (by decide : 23 + 0 ≤ _)⟩)
  dsimp only [Pt.U, Pt.locs, Pt.cells, Pt.slots] at X9 l9 y9 z9 st9 hQ9
  subst l9 y9 z9
  obtain ⟨rfl, N9q, e9⟩ := hQ9
  have N := Fr.app N N9q
  refine own_tr (T' := T9) (F' := (mkF m 59 #[.val (.long x0), .second, .val (.long x1), .second, .val (.int x2), .val (.int x3), .val (.ref r1), .val (.ref r2), .val (.ref b3), .val (.long x0), .second, .unset, .unset] [(.long x1)])) st9 ?_
  refine own_st (T' := T9) (F' := (mkF m 61 #[.val (.long x0), .second, .val (.long x1), .second, .val (.int x2), .val (.int x3), .val (.ref r1), .val (.ref r2), .val (.ref b3), .val (.long x0), .second, .val (.long x1), .second] [])) (fun t k => XS.lstore X9.here hx rfl (hb hby at_59) rfl (l' := #[.val (.long x0), .second, .val (.long x1), .second, .val (.int x2), .val (.int x3), .val (.ref r1), .val (.ref r2), .val (.ref b3), .val (.long x0), .second, .val (.long x1), .second]) rfl k) ?_
  refine own_st (T' := T9) (F' := (mkF m 63 #[.val (.long x0), .second, .val (.long x1), .second, .val (.int x2), .val (.int x3), .val (.ref r1), .val (.ref r2), .val (.ref b3), .val (.long x0), .second, .val (.long x1), .second] [(.long x0)])) (fun t k => XS.lload X9.here hx rfl (hb hby at_61) rfl k) ?_
  refine own_st (T' := T9) (F' := (mkF m 64 #[.val (.long x0), .second, .val (.long x1), .second, .val (.int x2), .val (.int x3), .val (.ref r1), .val (.ref r2), .val (.ref b3), .val (.long x0), .second, .val (.long x1), .second] [(.long x0), (.long x0)])) (fun t k => XS.lloadN X9.here hx rfl (hb hby at_63) rfl k) ?_
  refine own_st (T' := T9) (F' := (mkF m 65 #[.val (.long x0), .second, .val (.long x1), .second, .val (.int x2), .val (.int x3), .val (.ref r1), .val (.ref r2), .val (.ref b3), .val (.long x0), .second, .val (.long x1), .second] [(.int (lcmpW x0 x0))])) (fun t k => XS.lcmp X9.here hx rfl (hb hby at_64) rfl k) ?_
  refine own_st (T' := T9) (F' := (mkF m 68 #[.val (.long x0), .second, .val (.long x1), .second, .val (.int x2), .val (.int x3), .val (.ref r1), .val (.ref r2), .val (.ref b3), .val (.long x0), .second, .val (.long x1), .second] [])) (fun t k => XS.ifNo X9.here hx rfl (hb hby at_65) rfl ((if0 _ _).trans (teq ((lw_eq _ _).mpr rfl)).2) k) ?_
  refine own_st (T' := T9) (F' := (mkF m 70 #[.val (.long x0), .second, .val (.long x1), .second, .val (.int x2), .val (.int x3), .val (.ref r1), .val (.ref r2), .val (.ref b3), .val (.long x0), .second, .val (.long x1), .second] [(.long x1)])) (fun t k => XS.lload X9.here hx rfl (hb hby at_68) rfl k) ?_
  refine own_st (T' := T9) (F' := (mkF m 71 #[.val (.long x0), .second, .val (.long x1), .second, .val (.int x2), .val (.int x3), .val (.ref r1), .val (.ref r2), .val (.ref b3), .val (.long x0), .second, .val (.long x1), .second] [(.long x1), (.long x1)])) (fun t k => XS.lloadN X9.here hx rfl (hb hby at_70) rfl k) ?_
  refine own_st (T' := T9) (F' := (mkF m 72 #[.val (.long x0), .second, .val (.long x1), .second, .val (.int x2), .val (.int x3), .val (.ref r1), .val (.ref r2), .val (.ref b3), .val (.long x0), .second, .val (.long x1), .second] [(.int (lcmpW x1 x1))])) (fun t k => XS.lcmp X9.here hx rfl (hb hby at_71) rfl k) ?_
  refine own_st (T' := T9) (F' := (mkF m 75 #[.val (.long x0), .second, .val (.long x1), .second, .val (.int x2), .val (.int x3), .val (.ref r1), .val (.ref r2), .val (.ref b3), .val (.long x0), .second, .val (.long x1), .second] [])) (fun t k => XS.ifNo X9.here hx rfl (hb hby at_72) rfl ((if0 _ _).trans (teq ((lw_eq _ _).mpr rfl)).2) k) ?_
  refine own_st (T' := T9) (F' := (mkF m 76 #[.val (.long x0), .second, .val (.long x1), .second, .val (.int x2), .val (.int x3), .val (.ref r1), .val (.ref r2), .val (.ref b3), .val (.long x0), .second, .val (.long x1), .second] [(.int (1 : Int32))])) (fun t k => XS.iconst X9.here hx rfl (hb hby at_75) k) ?_
  refine own_st (T' := T9) (F' := (mkF m 80 #[.val (.long x0), .second, .val (.long x1), .second, .val (.int x2), .val (.int x3), .val (.ref r1), .val (.ref r2), .val (.ref b3), .val (.long x0), .second, .val (.long x1), .second] [(.int (1 : Int32))])) (fun t k => XS.goto X9.here hx rfl (pc0 := 76) (pc' := 80) rfl (hb hby at_76) (by decide) (by decide) k) ?_
  exact own_retNW X9 hx (t := .boolean) Bd.returns (by simp) (by decide) hS (by rw [e9]; exact hk) (hb hby at_80) hlk (by show Q0 Z _ T9.heap _; rw [e9]; exact ⟨rfl, N⟩) (by decide) (by decide)
set_option maxRecDepth 65536 in
set_option maxHeartbeats 40000000 in
theorem comes_1 {Post : Tables → Env → Array Value → State → Outcome → State → Prop} (hpost : ∀ tb e args s v u, (limb_1_1.after args s (.returned v) u = true ∧ limb_1_2.after args s (.returned v) u = true ∧ True) → ReturnedEndW s (.returned v) u (Jvm.fieldLocs frame_1_writes args s ++ Jvm.arrayLocs frame_1_arrays args s ++ Jvm.staticLocs frame_1_statics s) 24 1152 → Post tb e args s (.returned v) u) :
    ArmFor flags0 classFile x code maxLocals ret World_1 tables_1 room_1 Calls_1 rest_1 Pre_1 Post := by
  intro l hfl _ _ p e ha hc hk s m args below hf hA hF happ hP
  obtain ⟨hcalls, hrest, hpre⟩ := hP
  obtain ⟨-, -, -, hnamed, -, -, -, hat⟩ := (Spec.applies_iff hf).mp happ
  obtain ⟨hg, hn⟩ := and_e (Cond.before_iff.mp (show (Jvm.Cond.and given_1 narrow_1).before args s = true from hpre))
  obtain ⟨g0, g1⟩ := and_e hg
  obtain ⟨g2, g3⟩ := and_e g1
  obtain ⟨g4, g5⟩ := and_e g3
  obtain ⟨g6, g7⟩ := and_e g5
  obtain ⟨w0, w1, w2, w3, rfl⟩ : ∃ w0 w1 w2 w3 : Value, args = #[w0, w1, w2, w3] := by
    have hs : args.size = 4 := by simpa [Cond.value, given_1] using g0
    obtain ⟨L⟩ := args
    match L, hs with
    | [w0, w1, w2, w3], _ => exact ⟨w0, w1, w2, w3, rfl⟩
  have hw := fun d (hd : d ∈ tables_1) => atoms_spec (ws := Jvm.Cond.code x code maxLocals ret :: tables_1) hat d (List.mem_cons_of_mem _ hd)
  have hfit : Fit s := fun {y c} hc i hi => by
    obtain ⟨ha, rfl⟩ := Array.getElem?_eq_some_iff.mp hc
    have q := List.all_eq_true.mp ((Array.all_eq_true_iff_forall_mem.mp hF) _ (Array.getElem_mem ha)) i (List.mem_range.mpr hi)
    simpa [Array.getElem?_eq_getElem hi] using q
  obtain ⟨i0, ei0⟩ := isL_v g2
  obtain rfl : w0 = (.long i0) := Option.some.inj ei0
  obtain ⟨i1, ei1⟩ := isL_v g4
  obtain rfl : w1 = (.long i1) := Option.some.inj ei1
  obtain ⟨i2, ei2⟩ := is_v g6
  obtain rfl : w2 = (.int i2) := Option.some.inj ei2
  obtain ⟨i3, ei3⟩ := is_v g7
  obtain rfl : w3 = (.int i3) := Option.some.inj ei3
  obtain ⟨n0a, n0b⟩ := and_e hn
  obtain ⟨n1a, n1b⟩ := and_e n0b
  obtain ⟨n2a, n2b⟩ := and_e n1b
  obtain ⟨w_BUY, v_BUY⟩ := exa_v n0a
  have E_BUY := Exa.start v_BUY n0a
  have S_BUY := Sta.start v_BUY (Or.inr ⟨(hw _ (List.mem_of_getElem? (i := 52) rfl)), (hw _ (List.mem_of_getElem? (i := 53) rfl))⟩)
  obtain ⟨w_SELL, v_SELL⟩ := exa_v n1a
  have E_SELL := Exa.start v_SELL n1a
  have S_SELL := Sta.start v_SELL (Or.inr ⟨(hw _ (List.mem_of_getElem? (i := 52) rfl)), (hw _ (List.mem_of_getElem? (i := 61) rfl))⟩)
  have O_SELL := Fld.start (own_fld_int v_SELL n2a)
  have O_BUY := Fld.start (own_fld_int v_BUY n2b)
  obtain ⟨hsets, hown0⟩ := atoms_of _ (rest_1_c_eq ▸ (show rest_1_c.before _ s = true from hrest))
  obtain ⟨v_cs, e_cs⟩ := is_v (Cond.before_iff.mp (hsets _ (List.mem_of_getElem? (i := 1) rfl)))
  have S_cs := Sta.start e_cs (Or.inl (hsets _ (List.mem_of_getElem? (i := 0) rfl)))
  have hcs : ¬ v_cs = (0 : Int32) := gotF (Cond.eq_ints e_cs rfl) (not_v (Cond.before_iff.mp (hsets _ (List.mem_of_getElem? (i := 2) rfl))))
  have CX : Ctx s _ w_BUY w_SELL v_cs := ⟨hw, S_BUY, E_BUY, S_SELL, E_SELL, O_SELL, O_BUY, S_cs, hcs, trivial⟩
  obtain ⟨n, o, h1, h2, h3, _, L, rfl, ⟨rfl, N⟩, hq⟩ := rm0 l s _ CX tables_1 i0 i1 i2 i3 s.heap (own_ext_refl _)  p e ha hc hk s m _ below hf ((Spec.applies_iff_loose hf).mp happ).1 ⟨rfl, State.Warmed39.refl s, rfl⟩ trivial
  refine ⟨n, _, h1, h2, h3, hpost _ _ _ _ _ _ ⟨Cond.after_iff.mpr rfl, Cond.after_iff.mpr (eq_i res_at (Term.int_eval (1)) rfl), trivial⟩ ⟨hq.1, hq.2.1, hq.2.2.1, (hq.2.2.2.sift fun y hy => Or.inr (N y hy)).mono (by decide) (by decide)⟩⟩
theorem main_1_1 : Claimed_1_1 := comes_1 fun _ _ _ _ _ _ h hF => ⟨h.1, hF⟩
theorem main_1_2 : Claimed_1_2 := comes_1 fun _ _ _ _ _ _ h hF => ⟨h.2.1, hF⟩
end Jvm.Pilot.@@N@@
namespace Jvm.Pilot.@@N@@
open Jvm Jvm.ClassFile Sem Op Lib Jvm.Free Jvm.Stand Jvm.Pilot.@@N@@.Jvm.D
/-! MADE BY PROGRAM (witnessworld.py) out of the Statement's table words and the real class files: 20 classes; the members and pool entries that the words name. The judged class is class 1, her method 1. -/
namespace start1
open Jvm.ClassFile
def u (s : String) : CpInfo := .utf8 (stringToUtf16 s)
/-- a pool by its gaps: so many unusable entries, then the entry; so many at the end -/
def gap : Nat → List CpInfo → List CpInfo
  | 0, r => r
  | n + 1, r => .unusable :: gap n r
def poolList (es : List (Nat × CpInfo)) (last : Nat) : List CpInfo := es.foldr (fun e r => gap e.1 (e.2 :: r)) (gap last [])
def pool (es : List (Nat × CpInfo)) (last : Nat) : Array CpInfo := ⟨poolList es last⟩
def fileOf (pool : Array CpInfo) (this : Nat) (attrs : Array Attribute := #[]) (ms : Array MethodInfo := #[]) (fl : Nat := 33) (sup : Nat := 0) (ifs : Array Nat := #[]) (fds : Array FieldInfo := #[]) : ClassFile where
  minorVersion := 0
  majorVersion := 65
  constantPool := pool
  accessFlags := fl
  thisClass := this
  superClass := sup
  interfaces := ifs
  fields := fds
  methods := ms
  attributes := attrs
def plain (name : String) (sup : Option ClassId) : Class where
  name := name
  kind := .ordinary
  loader := none
  accessFlags := 33
  super := sup
  interfaces := #[]
  cf := none
  fields := #[]
  methods := #[]
  instanceTypes := #[]
  staticTypes := #[]
  resolved := #[]
  callSites := []
  init := .initialized
  statics := none
  mirror := none

def pool0 : Array CpInfo := pool [(5, u "<init>"), (0, u "()V"), (1, .class_ 10), (1, u "java/lang/Object")] 113

def k0c0 : Code := { maxStack := 0, maxLocals := 1, code := object_method_1_code, exceptionTable := #[], attributes := #[] }
def k0m0 : Method := { name := "<init>", desc := "()V", sig := { parameters := [], returnType := none }, accessFlags := 1, code := some k0c0 }
/-- java/lang/Object -/
def k0 : Class := { plain "java/lang/Object" none with
  accessFlags := 33
  interfaces := #[]
  cf := some (fileOf pool0 8 #[] #[{ accessFlags := 1, nameIndex := 5, descriptorIndex := 6, attributes := #[] }] 33 0 #[] #[])
  fields := #[]
  methods := #[k0m0]
  instanceTypes := #[]
  staticTypes := #[]
  resolved := Array.replicate 124 none
  statics := none }

def pool1 : Array CpInfo := pool [(2, .class_ 4), (1, u "java/lang/Object"), (0, u "<init>"), (0, u "()V"), (0, .methodref 8 9), (0, .class_ 10), (0, .nameAndType 11 12), (0, u "java/lang/String"), (0, u "valueOf"), (0, u "(C)Ljava/lang/String;"), (0, .class_ 14), (0, u "com/example/tidebook/tidebook/engine/Liquidity"), (0, .string 16), (0, u "S"), (0, .methodref 13 18), (0, .nameAndType 5 19), (0, u "(Ljava/lang/String;Ljava/lang/String;Ljava/lang/String;JJ)V"), (0, .fieldref 21 22), (0, .class_ 23), (0, .nameAndType 24 25), (0, u "com/example/tidebook/tidebook/engine/Side"), (0, u "BUY"), (0, u "Lcom/example/tidebook/tidebook/engine/Side;"), (0, .methodref 13 27), (0, .nameAndType 28 29), (0, u "most"), (0, u "(Lcom/example/tidebook/tidebook/engine/Side;)J"), (0, .fieldref 21 31), (0, .nameAndType 32 25), (0, u "SELL"), (0, .class_ 34), (0, u "com/example/tidebook/tidebook/engine/LiquidityMostPinLaw"), (2, u "law"), (0, u "(JJII)Z")] 3

def k1m0 : Method := { name := "<init>", desc := "()V", sig := { parameters := [], returnType := none }, accessFlags := 1, code := none }
def k1c1 : Code := { maxStack := 9, maxLocals := 13, code := code, exceptionTable := #[], attributes := #[] }
def k1m1 : Method := { name := "law", desc := "(JJII)Z", sig := { parameters := [.long, .long, .int, .int], returnType := some .boolean }, accessFlags := 9, code := some k1c1 }
/-- com/example/tidebook/tidebook/engine/LiquidityMostPinLaw -/
def k1 : Class := { plain "com/example/tidebook/tidebook/engine/LiquidityMostPinLaw" (some 0) with
  accessFlags := 49
  interfaces := #[]
  cf := some (fileOf pool1 33 #[] #[{ accessFlags := 1, nameIndex := 5, descriptorIndex := 6, attributes := #[] }, { accessFlags := 9, nameIndex := 37, descriptorIndex := 38, attributes := #[] }] 49 2 #[] #[])
  fields := #[]
  methods := #[k1m0, k1m1]
  instanceTypes := #[]
  staticTypes := #[]
  resolved := Array.replicate 42 none
  statics := none }

def pool2 : Array CpInfo := pool [(1, .class_ 2), (0, u "java/io/Serializable"), (0, .class_ 4), (0, u "java/lang/Object")] 2

/-- java/io/Serializable -/
def k2 : Class := { plain "java/io/Serializable" (some 0) with
  accessFlags := 1537
  interfaces := #[]
  cf := some (fileOf pool2 1 #[] #[] 1537 3 #[] #[])
  fields := #[]
  methods := #[]
  instanceTypes := #[]
  staticTypes := #[]
  resolved := Array.replicate 7 none
  statics := none }

def pool3 : Array CpInfo := pool [(1, .class_ 2), (0, u "java/lang/Comparable"), (0, .class_ 4), (0, u "java/lang/Object")] 7

/-- java/lang/Comparable -/
def k3 : Class := { plain "java/lang/Comparable" (some 0) with
  accessFlags := 1537
  interfaces := #[]
  cf := some (fileOf pool3 1 #[] #[] 1537 3 #[] #[])
  fields := #[]
  methods := #[]
  instanceTypes := #[]
  staticTypes := #[]
  resolved := Array.replicate 12 none
  statics := none }

def pool4 : Array CpInfo := pool [(2, .class_ 4), (1, u "java/lang/CharSequence"), (42, .class_ 48), (0, u "java/lang/CharSequence$1CodePointIterator"), (10, .class_ 60), (0, u "java/lang/CharSequence$1CharIterator"), (5, .class_ 67), (0, u "java/lang/Object")] 63

/-- java/lang/CharSequence -/
def k4 : Class := { plain "java/lang/CharSequence" (some 0) with
  accessFlags := 1537
  interfaces := #[]
  cf := some (fileOf pool4 2 #[.nestMembers #[47, 59]] #[] 1537 66 #[] #[])
  fields := #[]
  methods := #[]
  instanceTypes := #[]
  staticTypes := #[]
  resolved := Array.replicate 131 none
  statics := none }

def pool5 : Array CpInfo := pool [(1, .class_ 2), (0, u "java/lang/constant/Constable"), (0, .class_ 4), (0, u "java/lang/Object")] 6

/-- java/lang/constant/Constable -/
def k5 : Class := { plain "java/lang/constant/Constable" (some 0) with
  accessFlags := 1537
  interfaces := #[]
  cf := some (fileOf pool5 1 #[] #[] 1537 3 #[] #[])
  fields := #[]
  methods := #[]
  instanceTypes := #[]
  staticTypes := #[]
  resolved := Array.replicate 11 none
  statics := none }

def pool6 : Array CpInfo := pool [(1, .class_ 2), (0, u "java/lang/constant/ConstantDesc"), (0, .class_ 4), (0, u "java/lang/Object")] 32

/-- java/lang/constant/ConstantDesc -/
def k6 : Class := { plain "java/lang/constant/ConstantDesc" (some 0) with
  accessFlags := 1537
  interfaces := #[]
  cf := some (fileOf pool6 1 #[] #[] 1537 3 #[] #[])
  fields := #[]
  methods := #[]
  instanceTypes := #[]
  staticTypes := #[]
  resolved := Array.replicate 37 none
  statics := none }

def pool7 : Array CpInfo := pool [(1, .methodref 2 3), (0, .class_ 4), (0, .nameAndType 5 6), (0, u "java/lang/Object"), (0, u "<init>"), (0, u "()V"), (2, .fieldref 10 11), (0, .class_ 12), (0, .nameAndType 13 14), (0, u "java/lang/String"), (0, u "value"), (0, u "[B"), (0, .fieldref 10 16), (0, .nameAndType 17 18), (0, u "coder"), (0, u "B"), (2, u "hash"), (0, u "I"), (2, u "hashIsZero"), (0, u "Z"), (11, .fieldref 10 39), (0, .nameAndType 40 26), (0, u "COMPACT_STRINGS"), (12, u "toBytes"), (53, .class_ 109), (1, u "java/lang/StringLatin1"), (99, .methodref 10 210), (0, .nameAndType 5 211), (0, u "([BB)V"), (157, u "(C)Z"), (205, .class_ 576), (0, u "java/lang/CharSequence"), (22, u "CASE_INSENSITIVE_ORDER"), (0, u "Ljava/util/Comparator;"), (181, u "valueOf"), (0, u "(C)Ljava/lang/String;"), (231, .methodref 107 1016), (0, .nameAndType 1017 369), (0, u "canEncode"), (0, .methodref 107 1019), (0, .nameAndType 53 1020), (0, u "(C)[B"), (80, u "serialPersistentFields"), (0, u "[Ljava/io/ObjectStreamField;"), (0, .class_ 1104), (0, u "java/lang/String$CaseInsensitiveComparator"), (1, .class_ 1107), (0, u "java/io/Serializable"), (0, .class_ 1109), (0, u "java/lang/Comparable"), (0, .class_ 1111), (0, u "java/lang/constant/Constable"), (0, .class_ 1113), (0, u "java/lang/constant/ConstantDesc"), (2, u "serialVersionUID"), (0, u "J"), (3, u "REPL"), (0, u "C"), (2, u "LATIN1"), (1, u "UTF16")] 323

def k7m0 : Method := { name := "<init>", desc := "()V", sig := { parameters := [], returnType := none }, accessFlags := 1, code := none }
def k7c1 : Code := { maxStack := 4, maxLocals := 1, code := jdk_42_method_139_code, exceptionTable := #[], attributes := #[] }
def k7m1 : Method := { name := "valueOf", desc := "(C)Ljava/lang/String;", sig := { parameters := [.char], returnType := some (.object "java/lang/String") }, accessFlags := 9, code := some k7c1 }
def k7c2 : Code := { maxStack := 2, maxLocals := 3, code := jdk_42_method_151_code, exceptionTable := #[], attributes := #[] }
def k7m2 : Method := { name := "<init>", desc := "([BB)V", sig := { parameters := [(.array .byte), .byte], returnType := none }, accessFlags := 0, code := some k7c2 }
/-- java/lang/String -/
def k7 : Class := { plain "java/lang/String" (some 0) with
  accessFlags := 49
  interfaces := #[2, 3, 4, 5, 6]
  cf := some (fileOf pool7 10 #[.nestMembers #[1103]] #[{ accessFlags := 1, nameIndex := 5, descriptorIndex := 6, attributes := #[] }, { accessFlags := 9, nameIndex := 782, descriptorIndex := 783, attributes := #[] }, { accessFlags := 0, nameIndex := 5, descriptorIndex := 211, attributes := #[] }] 49 2 #[1106, 1108, 575, 1110, 1112] #[{ accessFlags := 18, nameIndex := 13, descriptorIndex := 14, attributes := #[] }, { accessFlags := 18, nameIndex := 17, descriptorIndex := 18, attributes := #[] }, { accessFlags := 2, nameIndex := 21, descriptorIndex := 22, attributes := #[] }, { accessFlags := 2, nameIndex := 25, descriptorIndex := 26, attributes := #[] }, { accessFlags := 26, nameIndex := 1116, descriptorIndex := 1117, attributes := #[] }, { accessFlags := 24, nameIndex := 40, descriptorIndex := 26, attributes := #[] }, { accessFlags := 26, nameIndex := 1101, descriptorIndex := 1102, attributes := #[] }, { accessFlags := 26, nameIndex := 1121, descriptorIndex := 1122, attributes := #[] }, { accessFlags := 25, nameIndex := 599, descriptorIndex := 600, attributes := #[] }, { accessFlags := 24, nameIndex := 1125, descriptorIndex := 18, attributes := #[] }, { accessFlags := 24, nameIndex := 1127, descriptorIndex := 18, attributes := #[] }])
  fields := #[{ name := "value", type := (.array .byte), accessFlags := 18, slot := 0, constantValue := 0 }, { name := "coder", type := .byte, accessFlags := 18, slot := 1, constantValue := 0 }, { name := "hash", type := .int, accessFlags := 2, slot := 2, constantValue := 0 }, { name := "hashIsZero", type := .boolean, accessFlags := 2, slot := 3, constantValue := 0 }, { name := "serialVersionUID", type := .long, accessFlags := 26, slot := 0, constantValue := 0 }, { name := "COMPACT_STRINGS", type := .boolean, accessFlags := 24, slot := 1, constantValue := 0 }, { name := "serialPersistentFields", type := (.array (.object "java/io/ObjectStreamField")), accessFlags := 26, slot := 2, constantValue := 0 }, { name := "REPL", type := .char, accessFlags := 26, slot := 3, constantValue := 0 }, { name := "CASE_INSENSITIVE_ORDER", type := (.object "java/util/Comparator"), accessFlags := 25, slot := 4, constantValue := 0 }, { name := "LATIN1", type := .byte, accessFlags := 24, slot := 5, constantValue := 0 }, { name := "UTF16", type := .byte, accessFlags := 24, slot := 6, constantValue := 0 }]
  methods := #[k7m0, k7m1, k7m2]
  instanceTypes := #[(.array .byte), .byte, .int, .boolean]
  staticTypes := #[.long, .boolean, (.array (.object "java/io/ObjectStreamField")), .char, (.object "java/util/Comparator"), .byte, .byte]
  resolved := Array.replicate 1451 none
  statics := some 0 }

def pool8 : Array CpInfo := pool [(4, .class_ 6), (1, u "java/lang/Object"), (0, u "<init>"), (0, u "()V"), (5, .class_ 16), (1, u "java/lang/StringLatin1"), (73, u "canEncode"), (14, u "(C)Z"), (15, u "$assertionsDisabled"), (0, u "Z"), (98, .class_ 223), (1, u "java/lang/StringLatin1$LinesSpliterator"), (156, u "toBytes"), (1, u "(C)[B"), (7, .class_ 391), (0, u "java/lang/StringLatin1$CharsSpliterator")] 3

def k8m0 : Method := { name := "<init>", desc := "()V", sig := { parameters := [], returnType := none }, accessFlags := 0, code := none }
def k8c1 : Code := { maxStack := 2, maxLocals := 1, code := jdk_43_method_3_code, exceptionTable := #[], attributes := #[] }
def k8m1 : Method := { name := "canEncode", desc := "(C)Z", sig := { parameters := [.char], returnType := some .boolean }, accessFlags := 9, code := some k8c1 }
def k8c2 : Code := { maxStack := 4, maxLocals := 1, code := jdk_43_method_46_code, exceptionTable := #[], attributes := #[] }
def k8m2 : Method := { name := "toBytes", desc := "(C)[B", sig := { parameters := [.char], returnType := some (.array .byte) }, accessFlags := 9, code := some k8c2 }
/-- java/lang/StringLatin1 -/
def k8 : Class := { plain "java/lang/StringLatin1" (some 0) with
  accessFlags := 48
  interfaces := #[]
  cf := some (fileOf pool8 14 #[.nestMembers #[390, 221]] #[{ accessFlags := 0, nameIndex := 7, descriptorIndex := 8, attributes := #[] }, { accessFlags := 9, nameIndex := 90, descriptorIndex := 105, attributes := #[] }, { accessFlags := 9, nameIndex := 380, descriptorIndex := 382, attributes := #[] }] 48 4 #[] #[{ accessFlags := 4120, nameIndex := 121, descriptorIndex := 122, attributes := #[] }])
  fields := #[{ name := "$assertionsDisabled", type := .boolean, accessFlags := 4120, slot := 0, constantValue := 0 }]
  methods := #[k8m0, k8m1, k8m2]
  instanceTypes := #[]
  staticTypes := #[.boolean]
  resolved := Array.replicate 395 none
  statics := none }

def pool9 : Array CpInfo := pool [(1, .methodref 2 3), (0, .class_ 4), (0, .nameAndType 5 6), (0, u "java/lang/Object"), (0, u "<init>"), (0, u "()V"), (0, .class_ 8), (0, u "java/lang/Record")] 13

def k9c0 : Code := { maxStack := 1, maxLocals := 1, code := jdk_30_method_1_code, exceptionTable := #[], attributes := #[] }
def k9m0 : Method := { name := "<init>", desc := "()V", sig := { parameters := [], returnType := none }, accessFlags := 4, code := some k9c0 }
/-- java/lang/Record -/
def k9 : Class := { plain "java/lang/Record" (some 0) with
  accessFlags := 1057
  interfaces := #[]
  cf := some (fileOf pool9 7 #[] #[{ accessFlags := 4, nameIndex := 5, descriptorIndex := 6, attributes := #[] }] 1057 2 #[] #[])
  fields := #[]
  methods := #[k9m0]
  instanceTypes := #[]
  staticTypes := #[]
  resolved := Array.replicate 22 none
  statics := none }

def pool10 : Array CpInfo := pool [(1, .methodref 2 3), (0, .class_ 4), (0, .nameAndType 5 6), (0, u "java/lang/Record"), (0, u "<init>"), (0, u "()V"), (0, .fieldref 8 9), (0, .class_ 10), (0, .nameAndType 11 12), (0, u "com/example/tidebook/tidebook/engine/Liquidity"), (0, u "provider"), (0, u "Ljava/lang/String;"), (0, .fieldref 8 14), (0, .nameAndType 15 12), (0, u "broker"), (0, .fieldref 8 17), (0, .nameAndType 18 12), (0, u "symbol"), (0, .fieldref 8 20), (0, .nameAndType 21 22), (0, u "brokerBuyMax"), (0, u "J"), (0, .fieldref 8 24), (0, .nameAndType 25 22), (0, u "brokerSellMax"), (0, .fieldref 27 28), (0, .class_ 29), (0, .nameAndType 30 31), (0, u "com/example/tidebook/tidebook/engine/Side"), (0, u "BUY"), (0, u "Lcom/example/tidebook/tidebook/engine/Side;"), (12, u "(Ljava/lang/String;Ljava/lang/String;Ljava/lang/String;JJ)V"), (3, u "most"), (0, u "(Lcom/example/tidebook/tidebook/engine/Side;)J")] 29

def k10c0 : Code := { maxStack := 3, maxLocals := 8, code := prog_34_method_1_code, exceptionTable := #[], attributes := #[] }
def k10m0 : Method := { name := "<init>", desc := "(Ljava/lang/String;Ljava/lang/String;Ljava/lang/String;JJ)V", sig := { parameters := [(.object "java/lang/String"), (.object "java/lang/String"), (.object "java/lang/String"), .long, .long], returnType := none }, accessFlags := 1, code := some k10c0 }
def k10c1 : Code := { maxStack := 2, maxLocals := 2, code := prog_34_method_2_code, exceptionTable := #[], attributes := #[] }
def k10m1 : Method := { name := "most", desc := "(Lcom/example/tidebook/tidebook/engine/Side;)J", sig := { parameters := [(.object "com/example/tidebook/tidebook/engine/Side")], returnType := some .long }, accessFlags := 0, code := some k10c1 }
/-- com/example/tidebook/tidebook/engine/Liquidity -/
def k10 : Class := { plain "com/example/tidebook/tidebook/engine/Liquidity" (some 9) with
  accessFlags := 49
  interfaces := #[]
  cf := some (fileOf pool10 8 #[] #[{ accessFlags := 1, nameIndex := 5, descriptorIndex := 44, attributes := #[] }, { accessFlags := 0, nameIndex := 48, descriptorIndex := 49, attributes := #[] }] 49 2 #[] #[{ accessFlags := 18, nameIndex := 11, descriptorIndex := 12, attributes := #[] }, { accessFlags := 18, nameIndex := 15, descriptorIndex := 12, attributes := #[] }, { accessFlags := 18, nameIndex := 18, descriptorIndex := 12, attributes := #[] }, { accessFlags := 18, nameIndex := 21, descriptorIndex := 22, attributes := #[] }, { accessFlags := 18, nameIndex := 25, descriptorIndex := 22, attributes := #[] }])
  fields := #[{ name := "provider", type := (.object "java/lang/String"), accessFlags := 18, slot := 0, constantValue := 0 }, { name := "broker", type := (.object "java/lang/String"), accessFlags := 18, slot := 1, constantValue := 0 }, { name := "symbol", type := (.object "java/lang/String"), accessFlags := 18, slot := 2, constantValue := 0 }, { name := "brokerBuyMax", type := .long, accessFlags := 18, slot := 3, constantValue := 0 }, { name := "brokerSellMax", type := .long, accessFlags := 18, slot := 4, constantValue := 0 }]
  methods := #[k10m0, k10m1]
  instanceTypes := #[(.object "java/lang/String"), (.object "java/lang/String"), (.object "java/lang/String"), .long, .long]
  staticTypes := #[]
  resolved := Array.replicate 79 none
  statics := none }

def pool11 : Array CpInfo := pool [(2, .class_ 4), (1, u "java/lang/Enum"), (0, u "name"), (0, u "Ljava/lang/String;"), (2, u "ordinal"), (0, u "I"), (1, .class_ 14), (1, u "java/lang/Object"), (4, u "hash"), (86, .class_ 108), (1, u "java/lang/Enum$EnumDesc"), (2, .class_ 112), (0, u "java/lang/constant/Constable"), (0, .class_ 114), (0, u "java/lang/Comparable"), (0, .class_ 116), (0, u "java/io/Serializable")] 87

/-- java/lang/Enum -/
def k11 : Class := { plain "java/lang/Enum" (some 0) with
  accessFlags := 1057
  interfaces := #[5, 3, 2]
  cf := some (fileOf pool11 2 #[.nestMembers #[106]] #[] 1057 12 #[111, 113, 115] #[{ accessFlags := 18, nameIndex := 5, descriptorIndex := 6, attributes := #[] }, { accessFlags := 18, nameIndex := 9, descriptorIndex := 10, attributes := #[] }, { accessFlags := 2, nameIndex := 19, descriptorIndex := 10, attributes := #[] }])
  fields := #[{ name := "name", type := (.object "java/lang/String"), accessFlags := 18, slot := 0, constantValue := 0 }, { name := "ordinal", type := .int, accessFlags := 18, slot := 1, constantValue := 0 }, { name := "hash", type := .int, accessFlags := 2, slot := 2, constantValue := 0 }]
  methods := #[]
  instanceTypes := #[(.object "java/lang/String"), .int, .int]
  staticTypes := #[]
  resolved := Array.replicate 204 none
  statics := none }

def pool12 : Array CpInfo := pool [(1, .class_ 2), (0, u "com/example/tidebook/tidebook/engine/Side"), (2, u "BUY"), (0, u "Lcom/example/tidebook/tidebook/engine/Side;"), (2, u "SELL"), (2, u "$VALUES"), (0, u "[Lcom/example/tidebook/tidebook/engine/Side;"), (6, .class_ 22), (1, u "java/lang/Enum")] 38

/-- com/example/tidebook/tidebook/engine/Side -/
def k12 : Class := { plain "com/example/tidebook/tidebook/engine/Side" (some 11) with
  accessFlags := 16433
  interfaces := #[]
  cf := some (fileOf pool12 1 #[] #[] 16433 20 #[] #[{ accessFlags := 16409, nameIndex := 5, descriptorIndex := 6, attributes := #[] }, { accessFlags := 16409, nameIndex := 9, descriptorIndex := 6, attributes := #[] }, { accessFlags := 4122, nameIndex := 12, descriptorIndex := 13, attributes := #[] }])
  fields := #[{ name := "BUY", type := (.object "com/example/tidebook/tidebook/engine/Side"), accessFlags := 16409, slot := 0, constantValue := 0 }, { name := "SELL", type := (.object "com/example/tidebook/tidebook/engine/Side"), accessFlags := 16409, slot := 1, constantValue := 0 }, { name := "$VALUES", type := (.array (.object "com/example/tidebook/tidebook/engine/Side")), accessFlags := 4122, slot := 2, constantValue := 0 }]
  methods := #[]
  instanceTypes := #[(.object "java/lang/String"), .int, .int]
  staticTypes := #[(.object "com/example/tidebook/tidebook/engine/Side"), (.object "com/example/tidebook/tidebook/engine/Side"), (.array (.object "com/example/tidebook/tidebook/engine/Side"))]
  resolved := Array.replicate 61 none
  statics := some 1 }

def pool13 : Array CpInfo := pool [(2, .class_ 4), (1, u "java/lang/Object"), (0, u "<init>"), (0, u "()V"), (17, .class_ 26), (1, u "jdk/internal/util/Preconditions"), (28, .class_ 56), (0, u "jdk/internal/util/Preconditions$4"), (57, .class_ 115), (0, u "jdk/internal/util/Preconditions$1"), (7, u "SIOOBE_FORMATTER"), (0, u "Ljava/util/function/BiFunction;"), (0, .class_ 126), (0, u "jdk/internal/util/Preconditions$2"), (3, u "AIOOBE_FORMATTER"), (0, .class_ 132), (0, u "jdk/internal/util/Preconditions$3"), (3, u "IOOBE_FORMATTER")] 57

def k13m0 : Method := { name := "<init>", desc := "()V", sig := { parameters := [], returnType := none }, accessFlags := 1, code := none }
/-- jdk/internal/util/Preconditions -/
def k13 : Class := { plain "jdk/internal/util/Preconditions" (some 0) with
  accessFlags := 33
  interfaces := #[]
  cf := some (fileOf pool13 24 #[.nestMembers #[55, 131, 125, 114]] #[{ accessFlags := 1, nameIndex := 5, descriptorIndex := 6, attributes := #[] }] 33 2 #[] #[{ accessFlags := 25, nameIndex := 123, descriptorIndex := 124, attributes := #[] }, { accessFlags := 25, nameIndex := 130, descriptorIndex := 124, attributes := #[] }, { accessFlags := 25, nameIndex := 136, descriptorIndex := 124, attributes := #[] }])
  fields := #[{ name := "SIOOBE_FORMATTER", type := (.object "java/util/function/BiFunction"), accessFlags := 25, slot := 0, constantValue := 0 }, { name := "AIOOBE_FORMATTER", type := (.object "java/util/function/BiFunction"), accessFlags := 25, slot := 1, constantValue := 0 }, { name := "IOOBE_FORMATTER", type := (.object "java/util/function/BiFunction"), accessFlags := 25, slot := 2, constantValue := 0 }]
  methods := #[k13m0]
  instanceTypes := #[]
  staticTypes := #[(.object "java/util/function/BiFunction"), (.object "java/util/function/BiFunction"), (.object "java/util/function/BiFunction")]
  resolved := Array.replicate 194 none
  statics := some 2 }

def pool14 : Array CpInfo := pool [(9, u "<init>"), (6, .class_ 18), (1, u "java/lang/Object"), (0, u "()V"), (1, .class_ 23), (1, u "jdk/internal/util/ArraysSupport"), (0, u "LOG2_ARRAY_LONG_INDEX_SCALE"), (0, u "I"), (2, u "U"), (0, u "Ljdk/internal/misc/Unsafe;"), (8, u "BIG_ENDIAN"), (0, u "Z"), (8, u "LOG2_BYTE_BIT_SIZE"), (4, u "LOG2_ARRAY_INT_INDEX_SCALE"), (54, u "JLA"), (0, u "Ljdk/internal/access/JavaLangAccess;"), (11, u "LOG2_ARRAY_BOOLEAN_INDEX_SCALE"), (9, u "LOG2_ARRAY_BYTE_INDEX_SCALE"), (5, u "LOG2_ARRAY_CHAR_INDEX_SCALE"), (5, u "LOG2_ARRAY_SHORT_INDEX_SCALE"), (18, u "LOG2_ARRAY_FLOAT_INDEX_SCALE"), (24, u "LOG2_ARRAY_DOUBLE_INDEX_SCALE"), (89, u "T_BOOLEAN"), (2, u "T_CHAR"), (1, u "T_FLOAT"), (1, u "T_DOUBLE"), (1, u "T_BYTE"), (1, u "T_SHORT"), (1, u "T_INT"), (1, u "T_LONG"), (1, u "SOFT_MAX_ARRAY_LENGTH")] 83

def k14m0 : Method := { name := "<init>", desc := "()V", sig := { parameters := [], returnType := none }, accessFlags := 2, code := none }
/-- jdk/internal/util/ArraysSupport -/
def k14 : Class := { plain "jdk/internal/util/ArraysSupport" (some 0) with
  accessFlags := 33
  interfaces := #[]
  cf := some (fileOf pool14 21 #[] #[{ accessFlags := 2, nameIndex := 9, descriptorIndex := 19, attributes := #[] }] 33 16 #[] #[{ accessFlags := 24, nameIndex := 28, descriptorIndex := 29, attributes := #[] }, { accessFlags := 26, nameIndex := 38, descriptorIndex := 39, attributes := #[] }, { accessFlags := 25, nameIndex := 121, descriptorIndex := 25, attributes := #[] }, { accessFlags := 25, nameIndex := 131, descriptorIndex := 25, attributes := #[] }, { accessFlags := 25, nameIndex := 137, descriptorIndex := 25, attributes := #[] }, { accessFlags := 25, nameIndex := 143, descriptorIndex := 25, attributes := #[] }, { accessFlags := 25, nameIndex := 53, descriptorIndex := 25, attributes := #[] }, { accessFlags := 25, nameIndex := 24, descriptorIndex := 25, attributes := #[] }, { accessFlags := 25, nameIndex := 162, descriptorIndex := 25, attributes := #[] }, { accessFlags := 25, nameIndex := 187, descriptorIndex := 25, attributes := #[] }, { accessFlags := 26, nameIndex := 48, descriptorIndex := 25, attributes := #[] }, { accessFlags := 25, nameIndex := 277, descriptorIndex := 25, attributes := #[] }, { accessFlags := 25, nameIndex := 280, descriptorIndex := 25, attributes := #[] }, { accessFlags := 25, nameIndex := 282, descriptorIndex := 25, attributes := #[] }, { accessFlags := 25, nameIndex := 284, descriptorIndex := 25, attributes := #[] }, { accessFlags := 25, nameIndex := 286, descriptorIndex := 25, attributes := #[] }, { accessFlags := 25, nameIndex := 288, descriptorIndex := 25, attributes := #[] }, { accessFlags := 25, nameIndex := 290, descriptorIndex := 25, attributes := #[] }, { accessFlags := 25, nameIndex := 292, descriptorIndex := 25, attributes := #[] }, { accessFlags := 26, nameIndex := 108, descriptorIndex := 109, attributes := #[] }, { accessFlags := 25, nameIndex := 294, descriptorIndex := 25, attributes := #[] }])
  fields := #[{ name := "U", type := (.object "jdk/internal/misc/Unsafe"), accessFlags := 24, slot := 0, constantValue := 0 }, { name := "BIG_ENDIAN", type := .boolean, accessFlags := 26, slot := 1, constantValue := 0 }, { name := "LOG2_ARRAY_BOOLEAN_INDEX_SCALE", type := .int, accessFlags := 25, slot := 2, constantValue := 0 }, { name := "LOG2_ARRAY_BYTE_INDEX_SCALE", type := .int, accessFlags := 25, slot := 3, constantValue := 0 }, { name := "LOG2_ARRAY_CHAR_INDEX_SCALE", type := .int, accessFlags := 25, slot := 4, constantValue := 0 }, { name := "LOG2_ARRAY_SHORT_INDEX_SCALE", type := .int, accessFlags := 25, slot := 5, constantValue := 0 }, { name := "LOG2_ARRAY_INT_INDEX_SCALE", type := .int, accessFlags := 25, slot := 6, constantValue := 0 }, { name := "LOG2_ARRAY_LONG_INDEX_SCALE", type := .int, accessFlags := 25, slot := 7, constantValue := 0 }, { name := "LOG2_ARRAY_FLOAT_INDEX_SCALE", type := .int, accessFlags := 25, slot := 8, constantValue := 0 }, { name := "LOG2_ARRAY_DOUBLE_INDEX_SCALE", type := .int, accessFlags := 25, slot := 9, constantValue := 0 }, { name := "LOG2_BYTE_BIT_SIZE", type := .int, accessFlags := 26, slot := 10, constantValue := 0 }, { name := "T_BOOLEAN", type := .int, accessFlags := 25, slot := 11, constantValue := 0 }, { name := "T_CHAR", type := .int, accessFlags := 25, slot := 12, constantValue := 0 }, { name := "T_FLOAT", type := .int, accessFlags := 25, slot := 13, constantValue := 0 }, { name := "T_DOUBLE", type := .int, accessFlags := 25, slot := 14, constantValue := 0 }, { name := "T_BYTE", type := .int, accessFlags := 25, slot := 15, constantValue := 0 }, { name := "T_SHORT", type := .int, accessFlags := 25, slot := 16, constantValue := 0 }, { name := "T_INT", type := .int, accessFlags := 25, slot := 17, constantValue := 0 }, { name := "T_LONG", type := .int, accessFlags := 25, slot := 18, constantValue := 0 }, { name := "JLA", type := (.object "jdk/internal/access/JavaLangAccess"), accessFlags := 26, slot := 19, constantValue := 0 }, { name := "SOFT_MAX_ARRAY_LENGTH", type := .int, accessFlags := 25, slot := 20, constantValue := 0 }]
  methods := #[k14m0]
  instanceTypes := #[]
  staticTypes := #[(.object "jdk/internal/misc/Unsafe"), .boolean, .int, .int, .int, .int, .int, .int, .int, .int, .int, .int, .int, .int, .int, .int, .int, .int, .int, (.object "jdk/internal/access/JavaLangAccess"), .int]
  resolved := Array.replicate 378 none
  statics := none }

def pool15 : Array CpInfo := pool [(1, u "java/lang/Cloneable"), (0, .class_ 1), (0, u "java/lang/Object"), (0, .class_ 3)] 3

/-- java/lang/Cloneable -/
def k15 : Class := { plain "java/lang/Cloneable" (some 0) with
  accessFlags := 1537
  interfaces := #[]
  cf := some (fileOf pool15 2 #[] #[] 1537 4 #[] #[])
  fields := #[]
  methods := #[]
  instanceTypes := #[]
  staticTypes := #[]
  resolved := Array.replicate 8 none
  statics := none }

/-- the primitive byte -/
def k16 : Class := { plain "byte" none with kind := .primitive 'B', accessFlags := 0x411 }
/-- [B -/
def k17 : Class := { plain "[B" (some 0) with kind := .array 16 .byte, interfaces := #[15, 2], accessFlags := 1041 }

/-- the primitive int -/
def k18 : Class := { plain "int" none with kind := .primitive 'I', accessFlags := 0x411 }
/-- [I -/
def k19 : Class := { plain "[I" (some 0) with kind := .array 18 .int, interfaces := #[15, 2], accessFlags := 1041 }

def heap : Heap := #[{ cls := 7, slots := #[.long 0, .int 1, .null, .int 0, .null, .int 0, .int 0], vm := .statics 7 },
  { cls := 12, slots := #[.ref 3, .ref 4, .null], vm := .statics 12 },
  { cls := 13, slots := #[.null, .null, .null], vm := .statics 13 },
  { cls := 12, slots := #[.null, .int 0, .int 0], vm := .none },
  { cls := 12, slots := #[.null, .int 1, .int 0], vm := .none }]
def classes : Array Class := #[k0, k1, k2, k3, k4, k5, k6, k7, k8, k9, k10, k11, k12, k13, k14, k15, k16, k17, k18, k19]
def interned : List (Array UInt16 × Addr) := []
def slotsUsed : Nat := 19
def theMethod : MethodId := ⟨1, 1⟩
def args0 : Array Value := #[.long 5, .long 5, .int 5, .int 5]
def aboutOver (below : List Frame) : State where
  vm := { classes := classes, interned := interned.toArray }
  heap := heap
  slotsUsed := slotsUsed
  threads := #[{ frames := .invoking theMethod args0 :: below }]
def below0 : List Frame := [.native { method := ⟨0, 0⟩, args := #[] }]
def about1 : State := aboutOver below0
def p0 : Program := .bare "" "" ""
def e0 : Env := launch0.env 0 0 0
theorem w_frames : about1.frames = Frame.invoking theMethod args0 :: below0 := rfl
set_option maxRecDepth 65536 in
theorem w_args : argsFit about1.vm theMethod args0 = true := by decide +kernel
set_option maxRecDepth 65536 in
theorem w_heap : heapFits about1 = true := by decide +kernel
set_option maxRecDepth 65536 in
theorem w_runnable : about1.curStatus? = some .runnable := by decide +kernel
set_option maxRecDepth 65536 in
theorem w_alone : about1.alone = true := by decide +kernel
set_option maxRecDepth 65536 in
theorem w_named : about1.methodNamed? x = some theMethod := by decide +kernel
set_option maxRecDepth 65536 in
theorem w_hears : about1.hears theMethod below0 = true := by decide +kernel
set_option maxRecDepth 65536 in
theorem w_ripe : about1.ripe theMethod args0 below0 = true := by decide +kernel
theorem w_running : about1.status = .running := rfl
set_option maxRecDepth 65536 in
theorem w_room : about1.hasRoom e0.platform room_1 = true :=
  launch0.hasRoom_least _ room_1 (by decide +kernel) (by decide +kernel) (by decide +kernel) (by decide +kernel) (by decide +kernel) (by decide +kernel)
theorem allAtoms_all (ts : List Jvm.Cond) (a : Array Jvm.Value) (st : Jvm.State) : (allAtoms ts).before a st = ts.all (fun c => c.before a st) := by
  induction ts with
  | nil => rfl
  | cons c t ih =>
    show (Jvm.Cond.and c (allAtoms t)).before a st = _
    rw [Jvm.Cond.before_and, ih, List.all_cons]
def words1 : List Jvm.Cond := Jvm.Cond.code x code maxLocals ret :: tables_1
/-- a 'code' word, met by the world's own term for the bytes: nothing is compared byte by byte -/
theorem code_word {y : MethodName} {bytes : ByteArray} {mx : Nat} {rt : Option FieldType} {a : Array Value} {s : State} {m : MethodId} {meth : Method} {c : Code} (h1 : s.methodNamed? y = some m) (h2 : s.vm.method? m = some meth) (h3 : meth.code = some c) (h4 : c.code = bytes)
    (h5 : (c.maxLocals == mx && c.exceptionTable.isEmpty && decide (c.maxStack ≤ mostOperands) && decide (meth.sig.returnType = rt) && !meth.locks && decide (parseMethodDescriptor y.desc = some meth.sig)) = true) : (Jvm.Cond.code y bytes mx rt).before a s = true := by
  simp only [Bool.and_eq_true, beq_iff_eq, Bool.not_eq_true', decide_eq_true_eq] at h5
  obtain ⟨⟨⟨⟨⟨g1, g2⟩, g3⟩, g4⟩, g5⟩, g6⟩ := h5
  simp [Cond.before, Cond.holds, Cond.value, h1, h2, h3, h4, g1, g2, g3, g4, g5, g6]
def isCode : Jvm.Cond → Bool
  | .code _ _ _ _ => true
  | _ => false
theorem all_split {L : List Jvm.Cond} {P : Jvm.Cond → Bool} (h1 : L.all (fun c => isCode c || P c) = true) (h2 : ∀ c ∈ L.filter isCode, P c = true) : L.all P = true := by
  refine List.all_eq_true.mpr fun c hc => ?_
  have h := List.all_eq_true.mp h1 c hc
  rcases Bool.eq_false_or_eq_true (isCode c) with hi | hi
  · exact h2 c (List.mem_filter.mpr ⟨hc, hi⟩)
  · simpa [hi] using h
set_option maxRecDepth 65536 in
theorem w_c0 : (Jvm.Cond.code x code maxLocals ret).before args0 about1 = true := code_word (m := ⟨1, 1⟩) (meth := k1m1) (c := k1c1) (by decide +kernel) rfl rfl rfl (by decide +kernel)
set_option maxRecDepth 65536 in
theorem w_c1 : (Jvm.Cond.code ({ cls := "java/lang/String", name := "valueOf", desc := "(C)Ljava/lang/String;" } : Jvm.MethodName) jdk_42_method_139_code (1 : Nat) (Option.some (Jvm.ClassFile.FieldType.object "java/lang/String"))).before args0 about1 = true := code_word (m := ⟨7, 1⟩) (meth := k7m1) (c := k7c1) (by decide +kernel) rfl rfl rfl (by decide +kernel)
set_option maxRecDepth 65536 in
theorem w_c2 : (Jvm.Cond.code ({ cls := "java/lang/StringLatin1", name := "canEncode", desc := "(C)Z" } : Jvm.MethodName) jdk_43_method_3_code (1 : Nat) (Option.some Jvm.ClassFile.FieldType.boolean)).before args0 about1 = true := code_word (m := ⟨8, 1⟩) (meth := k8m1) (c := k8c1) (by decide +kernel) rfl rfl rfl (by decide +kernel)
set_option maxRecDepth 65536 in
theorem w_c3 : (Jvm.Cond.code ({ cls := "java/lang/StringLatin1", name := "toBytes", desc := "(C)[B" } : Jvm.MethodName) jdk_43_method_46_code (1 : Nat) (Option.some (Jvm.ClassFile.FieldType.array Jvm.ClassFile.FieldType.byte))).before args0 about1 = true := code_word (m := ⟨8, 2⟩) (meth := k8m2) (c := k8c2) (by decide +kernel) rfl rfl rfl (by decide +kernel)
set_option maxRecDepth 65536 in
theorem w_c4 : (Jvm.Cond.code ({ cls := "java/lang/String", name := "<init>", desc := "([BB)V" } : Jvm.MethodName) jdk_42_method_151_code (3 : Nat) (Option.none : Option Jvm.ClassFile.FieldType)).before args0 about1 = true := code_word (m := ⟨7, 2⟩) (meth := k7m2) (c := k7c2) (by decide +kernel) rfl rfl rfl (by decide +kernel)
set_option maxRecDepth 65536 in
theorem w_c5 : (Jvm.Cond.code ({ cls := "java/lang/Object", name := "<init>", desc := "()V" } : Jvm.MethodName) object_method_1_code (1 : Nat) (Option.none : Option Jvm.ClassFile.FieldType)).before args0 about1 = true := code_word (m := ⟨0, 0⟩) (meth := k0m0) (c := k0c0) (by decide +kernel) rfl rfl rfl (by decide +kernel)
set_option maxRecDepth 65536 in
theorem w_c6 : (Jvm.Cond.code ({ cls := "com/example/tidebook/tidebook/engine/Liquidity", name := "<init>", desc := "(Ljava/lang/String;Ljava/lang/String;Ljava/lang/String;JJ)V" } : Jvm.MethodName) prog_34_method_1_code (8 : Nat) (Option.none : Option Jvm.ClassFile.FieldType)).before args0 about1 = true := code_word (m := ⟨10, 0⟩) (meth := k10m0) (c := k10c0) (by decide +kernel) rfl rfl rfl (by decide +kernel)
set_option maxRecDepth 65536 in
theorem w_c7 : (Jvm.Cond.code ({ cls := "java/lang/Record", name := "<init>", desc := "()V" } : Jvm.MethodName) jdk_30_method_1_code (1 : Nat) (Option.none : Option Jvm.ClassFile.FieldType)).before args0 about1 = true := code_word (m := ⟨9, 0⟩) (meth := k9m0) (c := k9c0) (by decide +kernel) rfl rfl rfl (by decide +kernel)
set_option maxRecDepth 65536 in
theorem w_c8 : (Jvm.Cond.code ({ cls := "com/example/tidebook/tidebook/engine/Liquidity", name := "most", desc := "(Lcom/example/tidebook/tidebook/engine/Side;)J" } : Jvm.MethodName) prog_34_method_2_code (2 : Nat) (Option.some Jvm.ClassFile.FieldType.long)).before args0 about1 = true := code_word (m := ⟨10, 1⟩) (meth := k10m1) (c := k10c1) (by decide +kernel) rfl rfl rfl (by decide +kernel)
def codes1 : List Jvm.Cond := [Jvm.Cond.code x code maxLocals ret, Jvm.Cond.code ({ cls := "java/lang/String", name := "valueOf", desc := "(C)Ljava/lang/String;" } : Jvm.MethodName) jdk_42_method_139_code (1 : Nat) (Option.some (Jvm.ClassFile.FieldType.object "java/lang/String")), Jvm.Cond.code ({ cls := "java/lang/StringLatin1", name := "canEncode", desc := "(C)Z" } : Jvm.MethodName) jdk_43_method_3_code (1 : Nat) (Option.some Jvm.ClassFile.FieldType.boolean), Jvm.Cond.code ({ cls := "java/lang/StringLatin1", name := "toBytes", desc := "(C)[B" } : Jvm.MethodName) jdk_43_method_46_code (1 : Nat) (Option.some (Jvm.ClassFile.FieldType.array Jvm.ClassFile.FieldType.byte)), Jvm.Cond.code ({ cls := "java/lang/String", name := "<init>", desc := "([BB)V" } : Jvm.MethodName) jdk_42_method_151_code (3 : Nat) (Option.none : Option Jvm.ClassFile.FieldType), Jvm.Cond.code ({ cls := "java/lang/Object", name := "<init>", desc := "()V" } : Jvm.MethodName) object_method_1_code (1 : Nat) (Option.none : Option Jvm.ClassFile.FieldType), Jvm.Cond.code ({ cls := "com/example/tidebook/tidebook/engine/Liquidity", name := "<init>", desc := "(Ljava/lang/String;Ljava/lang/String;Ljava/lang/String;JJ)V" } : Jvm.MethodName) prog_34_method_1_code (8 : Nat) (Option.none : Option Jvm.ClassFile.FieldType), Jvm.Cond.code ({ cls := "java/lang/Record", name := "<init>", desc := "()V" } : Jvm.MethodName) jdk_30_method_1_code (1 : Nat) (Option.none : Option Jvm.ClassFile.FieldType), Jvm.Cond.code ({ cls := "com/example/tidebook/tidebook/engine/Liquidity", name := "most", desc := "(Lcom/example/tidebook/tidebook/engine/Side;)J" } : Jvm.MethodName) prog_34_method_2_code (2 : Nat) (Option.some Jvm.ClassFile.FieldType.long)]
set_option maxRecDepth 65536 in
theorem codes_eq : words1.filter isCode = codes1 := rfl
theorem w_codes : ∀ c ∈ words1.filter isCode, c.before args0 about1 = true := by
  rw [codes_eq]
  intro c hc
  simp only [codes1, List.mem_cons, List.not_mem_nil, or_false] at hc
  rcases hc with rfl | rfl | rfl | rfl | rfl | rfl | rfl | rfl | rfl
  · exact w_c0
  · exact w_c1
  · exact w_c2
  · exact w_c3
  · exact w_c4
  · exact w_c5
  · exact w_c6
  · exact w_c7
  · exact w_c8
set_option maxRecDepth 65536 in
theorem w_t1 : (words1.take 24).all (fun c => isCode c || c.before args0 about1) = true := by decide +kernel
set_option maxRecDepth 65536 in
theorem w_t2 : ((words1.drop 24).take 24).all (fun c => isCode c || c.before args0 about1) = true := by decide +kernel
set_option maxRecDepth 65536 in
theorem w_t3 : ((words1.drop 24).drop 24).all (fun c => isCode c || c.before args0 about1) = true := by decide +kernel
theorem w_tables : (allAtoms (Jvm.Cond.code x code maxLocals ret :: tables_1)).before args0 about1 = true := by
  rw [allAtoms_all]
  show words1.all (fun c => c.before args0 about1) = true
  refine all_split ?_ w_codes
  rw [← List.take_append_drop 24 words1, List.all_append, w_t1, ← List.take_append_drop 24 (words1.drop 24), List.all_append, w_t2, w_t3]
  rfl
set_option maxRecDepth 65536 in
theorem w_rest : rest_1_c.before args0 about1 = true := by decide +kernel
set_option maxRecDepth 65536 in
theorem w_case : (Jvm.Cond.and given_1 narrow_1).before args0 about1 = true := by decide +kernel
theorem w_applies : (headSpec (Jvm.Cond.code x code maxLocals ret :: tables_1) room_1).applies x e0.platform about1 = true :=
  (Spec.applies_iff w_frames).mpr ⟨w_running, w_runnable, w_alone, w_named, w_hears, w_ripe, w_room, w_tables⟩
theorem atStart : AtStart classFile x code maxLocals ret World_1 tables_1 room_1 Calls_1 rest_1 Pre_1 launch0 p0 e0 about1 theMethod args0 below0 :=
  ⟨lists_1, trivial, launch0.admits_env _ _ _, launch0.least_env, fairChoices_fair.cas, fairChoices_fair.clock, w_frames, w_args, w_heap, w_applies, trivial, w_rest, w_case⟩
end start1
theorem witness_1 : WitnessClaimed_1 := ⟨start1.p0, start1.e0, start1.about1, start1.theMethod, start1.args0, start1.below0, start1.atStart⟩
end Jvm.Pilot.@@N@@
