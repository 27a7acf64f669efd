import JvmDerived
import JvmDerived.Pilot.@@N@@Statement
import JvmDerived.Pilot.@@N@@Code
set_option linter.unusedVariables false
set_option linter.unusedSimpArgs false
namespace Jvm.Pilot.@@N@@
open Jvm Jvm.ClassFile Sem Op Lib Jvm.Free Jvm.Stand Jvm.LawKit Jvm.RoadKit Bundle Jvm.Pilot.@@N@@.Jvm.D
/-! own_Done: from frame F on top of T the run comes to its end, and R holds there -/
def own_Done (tb : Tables) (e : Env) (below : List Frame) (R : Outcome → State → Prop) (T : State) (F : JFrame) : Prop :=
  ∃ s₂ o, Steps tb e below (T.setTop F) s₂ ∧ s₂.status = .running ∧ Ended s₂ below o ∧ R o s₂
def own_R (Qq : Option Value → Heap → List Loc → Prop) (s : State) (C S : Nat) : Outcome → State → Prop :=
  fun o U => ∃ v L, o = .returned v ∧ Qq v U.heap L ∧ FrameEnd s o U L C S
def own_RW (Qq : Option Value → Heap → List Loc → Prop) (s : State) (C S : Nat) : Outcome → State → Prop :=
  fun o U => ∃ v L, o = .returned v ∧ Qq v U.heap L ∧ ReturnedEndW s o U L C S
theorem own_st {tb : Tables} {e : Env} {below : List Frame} {R : Outcome → State → Prop} {T T' : State} {F F' : JFrame} (k : ∀ t, Steps tb e below (T'.setTop F') t → Steps tb e below (T.setTop F) t) (d : own_Done tb e below R T' F') : own_Done tb e below R T F := by
  obtain ⟨a, o, h1, h2⟩ := d
  exact ⟨a, o, k a h1, h2⟩
theorem own_tr {tb : Tables} {e : Env} {below : List Frame} {R : Outcome → State → Prop} {T T' : State} {F F' : JFrame} (k : Steps tb e below (T.setTop F) (T'.setTop F')) (d : own_Done tb e below R T' F') : own_Done tb e below R T F := by
  obtain ⟨a, o, h1, h2⟩ := d
  exact ⟨a, o, k.trans h1, h2⟩
section Own
variable {p : Program} {l : Launch} {e : Env} {Rm : Room} {s : State} {m : MethodId} {args : Array Value} {below : List Frame} {meth : Method} {c : Code} {T : State} {locs : List Loc} {cells slots : Nat}
theorem own_ret (X : Stand p l e Rm s m args below meth c T locs cells slots) (hx : p.tables.exec = Jvm.exec) {pc : Nat} {Ls : Array Slot} {w : Value} {t : FieldType} {i : Instr} {rest : List Value} (hret : meth.sig.returnType = some t) (hn : narrow t w = w)
    (hi : (i = .ireturn ∧ (t = .int ∨ t = .boolean ∨ t = .byte ∨ t = .char ∨ t = .short) ∧ ∃ z, w = .int z) ∨ (i = .lreturn ∧ t = .long ∧ ∃ z, w = .long z) ∨ (i = .dreturn ∧ t = .double ∧ ∃ z, w = .double z) ∨ (i = .freturn ∧ t = .float ∧ ∃ z, w = .float z) ∨ (i = .areturn ∧ t.isReference = true ∧ w.isRef = true))
    (hd : decode c.code pc = .ok (i, 1)) (hlk : meth.locks = false) {Qq : Option Value → Heap → List Loc → Prop} {C S : Nat} (hQ : Qq (some w) T.heap locs) (hc : cells ≤ C) (hs : slots ≤ S) :
    own_Done p.tables e below (own_R Qq s C S) T (mkF m pc Ls (w :: rest)) := by
  obtain ⟨fs, hr, hrun, hended, hW, hsame⟩ := X.leave (v := some w) (fun h => by rw [hret] at h; cases h) hlk
  exact ⟨_, _, retOut X hx hret hn hi hd hr, hrun, hended, _, _, rfl, hQ, ⟨_, rfl⟩, hW, hsame.mono hc hs⟩
theorem own_retI (X : Stand p l e Rm s m args below meth c T locs cells slots) (hx : p.tables.exec = Jvm.exec) {pc : Nat} {Ls : Array Slot} {z : Int32} {rest : List Value} (hret : meth.sig.returnType = some .int) (hd : decode c.code pc = .ok (.ireturn, 1)) (hlk : meth.locks = false)
    {Qq : Option Value → Heap → List Loc → Prop} {C S : Nat} (hQ : Qq (some (.int z)) T.heap locs) (hc : cells ≤ C) (hs : slots ≤ S) : own_Done p.tables e below (own_R Qq s C S) T (mkF m pc Ls (.int z :: rest)) :=
  own_ret X hx hret rfl (Or.inl ⟨rfl, Or.inl rfl, _, rfl⟩) hd hlk hQ hc hs
theorem own_retN (X : Stand p l e Rm s m args below meth c T locs cells slots) (hx : p.tables.exec = Jvm.exec) {pc : Nat} {Ls : Array Slot} {z : Int32} {t : FieldType} {rest : List Value} (hret : meth.sig.returnType = some t) (ht : t = .boolean ∨ t = .byte ∨ t = .char ∨ t = .short) (hn : narrow t (.int z) = .int z) (hd : decode c.code pc = .ok (.ireturn, 1)) (hlk : meth.locks = false)
    {Qq : Option Value → Heap → List Loc → Prop} {C S : Nat} (hQ : Qq (some (.int z)) T.heap locs) (hc : cells ≤ C) (hs : slots ≤ S) : own_Done p.tables e below (own_R Qq s C S) T (mkF m pc Ls (.int z :: rest)) :=
  own_ret X hx hret hn (Or.inl ⟨rfl, Or.inr ht, _, rfl⟩) hd hlk hQ hc hs
theorem own_retJ (X : Stand p l e Rm s m args below meth c T locs cells slots) (hx : p.tables.exec = Jvm.exec) {pc : Nat} {Ls : Array Slot} {z : Int64} {rest : List Value} (hret : meth.sig.returnType = some .long) (hd : decode c.code pc = .ok (.lreturn, 1)) (hlk : meth.locks = false)
    {Qq : Option Value → Heap → List Loc → Prop} {C S : Nat} (hQ : Qq (some (.long z)) T.heap locs) (hc : cells ≤ C) (hs : slots ≤ S) : own_Done p.tables e below (own_R Qq s C S) T (mkF m pc Ls (.long z :: rest)) :=
  own_ret X hx hret rfl (Or.inr (Or.inl ⟨rfl, rfl, _, rfl⟩)) hd hlk hQ hc hs
theorem own_narrow {t : FieldType} {v : Value} (h : v.isRef = true) : narrow t v = v := by
  rcases ref_cases h with rfl | ⟨a, rfl⟩ <;> cases t <;> rfl
theorem own_retA (X : Stand p l e Rm s m args below meth c T locs cells slots) (hx : p.tables.exec = Jvm.exec) {pc : Nat} {Ls : Array Slot} {w : Value} {t : FieldType} {rest : List Value} (hret : meth.sig.returnType = some t) (ht : t.isReference = true) (hw : w.isRef = true) (hd : decode c.code pc = .ok (.areturn, 1)) (hlk : meth.locks = false)
    {Qq : Option Value → Heap → List Loc → Prop} {C S : Nat} (hQ : Qq (some w) T.heap locs) (hc : cells ≤ C) (hs : slots ≤ S) : own_Done p.tables e below (own_R Qq s C S) T (mkF m pc Ls (w :: rest)) :=
  own_ret X hx hret (own_narrow hw) (Or.inr (Or.inr (Or.inr (Or.inr ⟨rfl, ht, hw⟩)))) hd hlk hQ hc hs
theorem own_retV (X : Stand p l e Rm s m args below meth c T locs cells slots) (hx : p.tables.exec = Jvm.exec) {pc : Nat} {Ls : Array Slot} (hret : meth.sig.returnType = none) (hd : decode c.code pc = .ok (.return_, 1)) (hlk : meth.locks = false)
    {Qq : Option Value → Heap → List Loc → Prop} {C S : Nat} (hQ : Qq none T.heap locs) (hc : cells ≤ C) (hs : slots ≤ S) : own_Done p.tables e below (own_R Qq s C S) T (mkF m pc Ls []) := by
  obtain ⟨fs, hr, hrun, hended, hW, hsame⟩ := X.leave (v := none) (fun _ => rfl) hlk
  exact ⟨_, _, X.returnOut hx hret hd hr, hrun, hended, _, _, rfl, hQ, ⟨_, rfl⟩, hW, hsame.mono hc hs⟩
theorem own_retW {vm₁ : Vm} (X : Stand p l e Rm (s.setVm vm₁) m args below meth c T locs cells slots) (hx : p.tables.exec = Jvm.exec) {pc : Nat} {Ls : Array Slot} {w : Value} {t : FieldType} {i : Instr} {rest : List Value} (hret : meth.sig.returnType = some t) (hn : narrow t w = w)
    (hi : (i = .ireturn ∧ (t = .int ∨ t = .boolean ∨ t = .byte ∨ t = .char ∨ t = .short) ∧ ∃ z, w = .int z) ∨ (i = .lreturn ∧ t = .long ∧ ∃ z, w = .long z) ∨ (i = .dreturn ∧ t = .double ∧ ∃ z, w = .double z) ∨ (i = .freturn ∧ t = .float ∧ ∃ z, w = .float z) ∨ (i = .areturn ∧ t.isReference = true ∧ w.isRef = true))
    {ks : Nat} (hS : s.Since vm₁ ks) (hk : ks ≤ T.heap.size) (hd : decode c.code pc = .ok (i, 1)) (hlk : meth.locks = false) {Qq : Option Value → Heap → List Loc → Prop} {C S : Nat} (hQ : Qq (some w) T.heap locs) (hc : cells ≤ C) (hs : slots ≤ S) :
    own_Done p.tables e below (own_RW Qq s C S) T (mkF m pc Ls (w :: rest)) := by
  obtain ⟨fs, hr, hrun, hended, hW⟩ := X.leaveW hS hk (v := some w) (fun h => by rw [hret] at h; cases h) hlk
  exact ⟨_, _, retOut X hx hret hn hi hd hr, hrun, hended, _, _, rfl, hQ, hW.1, hW.2.1, hW.2.2.1, hW.2.2.2.mono hc hs⟩
theorem own_retIW {vm₁ : Vm} (X : Stand p l e Rm (s.setVm vm₁) m args below meth c T locs cells slots) (hx : p.tables.exec = Jvm.exec) {pc : Nat} {Ls : Array Slot} {z : Int32} {rest : List Value} (hret : meth.sig.returnType = some .int) {ks : Nat} (hS : s.Since vm₁ ks) (hk : ks ≤ T.heap.size) (hd : decode c.code pc = .ok (.ireturn, 1)) (hlk : meth.locks = false)
    {Qq : Option Value → Heap → List Loc → Prop} {C S : Nat} (hQ : Qq (some (.int z)) T.heap locs) (hc : cells ≤ C) (hs : slots ≤ S) : own_Done p.tables e below (own_RW Qq s C S) T (mkF m pc Ls (.int z :: rest)) :=
  own_retW X hx hret rfl (Or.inl ⟨rfl, Or.inl rfl, _, rfl⟩) hS hk hd hlk hQ hc hs
theorem own_retNW {vm₁ : Vm} (X : Stand p l e Rm (s.setVm vm₁) m args below meth c T locs cells slots) (hx : p.tables.exec = Jvm.exec) {pc : Nat} {Ls : Array Slot} {z : Int32} {t : FieldType} {rest : List Value} (hret : meth.sig.returnType = some t) (ht : t = .boolean ∨ t = .byte ∨ t = .char ∨ t = .short) (hn : narrow t (.int z) = .int z) {ks : Nat} (hS : s.Since vm₁ ks) (hk : ks ≤ T.heap.size) (hd : decode c.code pc = .ok (.ireturn, 1)) (hlk : meth.locks = false)
    {Qq : Option Value → Heap → List Loc → Prop} {C S : Nat} (hQ : Qq (some (.int z)) T.heap locs) (hc : cells ≤ C) (hs : slots ≤ S) : own_Done p.tables e below (own_RW Qq s C S) T (mkF m pc Ls (.int z :: rest)) :=
  own_retW X hx hret hn (Or.inl ⟨rfl, Or.inr ht, _, rfl⟩) hS hk hd hlk hQ hc hs
theorem own_retJW {vm₁ : Vm} (X : Stand p l e Rm (s.setVm vm₁) m args below meth c T locs cells slots) (hx : p.tables.exec = Jvm.exec) {pc : Nat} {Ls : Array Slot} {z : Int64} {rest : List Value} (hret : meth.sig.returnType = some .long) {ks : Nat} (hS : s.Since vm₁ ks) (hk : ks ≤ T.heap.size) (hd : decode c.code pc = .ok (.lreturn, 1)) (hlk : meth.locks = false)
    {Qq : Option Value → Heap → List Loc → Prop} {C S : Nat} (hQ : Qq (some (.long z)) T.heap locs) (hc : cells ≤ C) (hs : slots ≤ S) : own_Done p.tables e below (own_RW Qq s C S) T (mkF m pc Ls (.long z :: rest)) :=
  own_retW X hx hret rfl (Or.inr (Or.inl ⟨rfl, rfl, _, rfl⟩)) hS hk hd hlk hQ hc hs
theorem own_mono (X : Stand p l e Rm s m args below meth c T locs cells slots) {C S : Nat} (hc : cells ≤ C) (hs : slots ≤ S) : Stand p l e Rm s m args below meth c T locs C S :=
  { X with same := X.same.mono hc hs }
end Own
theorem own_cI {z : Int32} : (Value.int z).category = 1 := rfl
theorem own_cJ {z : Int64} : (Value.long z).category = 2 := rfl
theorem own_cR {a : Addr} : (Value.ref a).category = 1 := rfl
theorem own_cN : Value.null.category = 1 := rfl
theorem own_cat1 {v : Value} (h : v.isRef = true) : v.category = 1 := by rcases ref_cases h with rfl | ⟨a, rfl⟩ <;> rfl
theorem own_fits {t : FieldType} {v : Value} (ht : t.isReference = true) (h : v.isRef = true) : fits t v = true := by rcases ref_cases h with rfl | ⟨a, rfl⟩ <;> cases t <;> first | rfl | cases ht
theorem own_nb {z : Int32} (h : z = 0 ∨ z = 1) : narrow .boolean (.int z) = .int z := by rcases h with rfl | rfl <;> rfl
theorem own_fb {z : Int32} (h : z = 0 ∨ z = 1) : fits .boolean (.int z) = true := by rcases h with rfl | rfl <;> rfl
theorem own_ext_refl (h : Heap) : Ext h h := ⟨Nat.le_refl _, fun _ _ q => q⟩
theorem own_ext_trans {h h' h2 : Heap} (A : Ext h h') (B : Ext h' h2) : Ext h h2 := ⟨Nat.le_trans A.1 B.1, fun a c q => B.2 a c (A.2 a c q)⟩
theorem own_O_wr {Z : State} {h h' : Heap} {a : Addr} {sl : Nat} {v : Value} (A : Ext Z.heap h) (B : Wr h h' a sl v) (q : Z.heap.size ≤ a) : Ext Z.heap h' := (Old.wr (⟨rfl, A⟩ : Old Z Z.heap.size h) B q).2
theorem own_O_keep {Z : State} {h h' : Heap} {ws : List Addr} (A : Ext Z.heap h) (B : Keep h h' ws) (q : ∀ a ∈ ws, Z.heap.size ≤ a) : Ext Z.heap h' := (Old.keep (⟨rfl, A⟩ : Old Z Z.heap.size h) B q).2
theorem own_eq_int {args : Array Value} {s : State} {t : Term} {k : Int32} (h : (Jvm.Cond.eq t (Term.int k)).value args s none s [] = some true) : t.eval args s none [] s = some (.int k) := by
  obtain ⟨u, v, h1, h2, h3, h4⟩ := cmp_v (Or.inl h)
  have h5 : v = .int k := (Option.some.inj h2).symm
  subst h5
  obtain ⟨z, rfl⟩ := h4
  rw [h1]
  simp only [Jvm.Cond.value, h1, h2, Option.some.injEq, decide_eq_true_eq] at h
  rw [h]
theorem own_fld_int {args : Array Value} {s : State} {t : Term} {C n d : String} {a : Addr} {k : Int32} (ht : t.eval args s none [] s = some (.ref a)) (h : (Jvm.Cond.eq (Term.field t C n d) (Term.int k)).value args s none s [] = some true) : s.fieldOf? a C n d = some (.int k) :=
  (fld_at ht).symm.trans (own_eq_int h)
theorem own_eq_ref {args : Array Value} {s : State} {t u : Term} {a : Addr} (h : (Jvm.Cond.eq t u).value args s none s [] = some true) (hu : u.eval args s none [] s = some (.ref a)) : t.eval args s none [] s = some (.ref a) := by
  obtain ⟨x1, y1, h1, h2, h3, h4⟩ := cmp_v (Or.inl h)
  obtain rfl : y1 = .ref a := Option.some.inj (h2.symm.trans hu)
  have hr : x1.isRef = true := by cases x1 <;> first | rfl | (simp [Kin] at h3; done) | exact h3.1
  have e := gotT (eq_R h1 h2 hr rfl) h
  rw [h1, e]
theorem own_len {args : Array Value} {s : State} {t : Term} {a : Addr} {cl : Cell} {n : Int32} (h : (Term.length t).eval args s none [] s = some (.int n)) (ht : t.eval args s none [] s = some (.ref a)) (hc : s.heap[a]? = some cl) : cl.slots.size < 2 ^ 31 ∧ cl.slots.size.toInt32 = n := by
  obtain ⟨a', cell, e1, e2, e3⟩ := Term.length_spec h
  cases ht.symm.trans e1
  cases hc.symm.trans (State.arrayAt?_spec e2).1
  by_cases q : cl.slots.size < 2 ^ 31
  · exact ⟨q, (Value.int.inj e3).symm⟩
  · simp [Term.eval, ht, e2, q] at h
theorem own_initFor {args : Array Value} {s : State} {C n d : String} (h1 : (Jvm.Cond.initializedFor C n d).before args s = true) (h2 : (Jvm.Cond.laysStatic C n d).before args s = true) : (Jvm.Cond.initialized C).before args s = true := by
  obtain ⟨c, k, i, f, a, cell, q1, q2, -⟩ := Cond.laysStatic_spec h2
  have q3 := Cond.initializedFor_spec q2 h1
  have q4 := State.fieldFound?_class q2
  simp [Cond.before, Cond.holds, Cond.value, q1, q4, q3]
theorem own_ns_root {Z : State} {a0 : Array Value} {Ob K : String} {n : Nat} (w : (Jvm.Cond.noSuperclass Ob).before a0 Z = true) (wk : (Jvm.Cond.instantiable K n).before a0 Z = true) (hn : Ob ≠ K) : NS Z Ob K := by
  obtain ⟨c, k, h1, h2, h3, -, -⟩ := Cond.noSuperclass_spec w
  obtain ⟨t, k2, g1, -⟩ := Cond.instantiable_spec wk
  have ne := ids_ne h1 g1 hn
  refine ⟨c, t, h1, g1, fun fuel => ?_⟩
  cases fuel with
  | zero => rfl
  | succ f => simp [Vm.isSubclassAux, ne, h2, h3]
theorem own_ns_no {Z : State} {a0 : Array Value} {C Sp K : String} {n : Nat} (w : (Jvm.Cond.superclass C Sp).before a0 Z = true) (wk : (Jvm.Cond.instantiable K n).before a0 Z = true) (ns : NS Z C K) (hn : C ≠ K) : ∃ c t, Z.vm.findClass C = some c ∧ Z.vm.findClass K = some t ∧ Z.vm.assignable c t = false := by
  obtain ⟨c, t, h0, g0, n3⟩ := ns
  obtain ⟨p, k, kp, h1, h2, h3, h4, h5, -, h7⟩ := Cond.superclass_spec h0 w
  obtain ⟨t', k', g1, g2, g3, g4, -⟩ := Cond.instantiable_spec wk
  cases g0.symm.trans g1
  have g5 : k'.isInterface = false := by
    simp only [Bool.or_eq_false_iff] at g4
    exact g4.1
  have ne := ids_ne h0 g0 hn
  refine ⟨c, t, h0, g0, ?_⟩
  show Z.vm.assignableAux (255 + 1) c t = false
  simp [Vm.assignableAux, ne, h2, g2, h5, g3, g5, Vm.isSubclass, n3]
theorem own_ext_keep {h h' : Heap} (K : Keep h h' []) : Ext h h' := ⟨K.1, fun a c q => K.2.1 a c q (fun z => nomatch z)⟩
theorem own_sub_at {args : Array Value} {first s : State} {o : Option Outcome} {idx : List Nat} {t u : Term} {v w : Int32} (ha : t.eval args first o idx s = some (.int v)) (hb : u.eval args first o idx s = some (.int w)) : (Term.sub t u).eval args first o idx s = some (.int (v - w)) := by simp [Term.eval, ha, hb]
def own_Bx (Z : State) (h : Heap) (w : Value) (b q : Int32) : Prop := (w = .null ∧ b = 1) ∨ (b = 0 ∧ ∃ r : Addr, w = .ref r ∧ Exa Z h r "java/lang/Integer" ∧ Fld Z h r "java/lang/Integer" "value" "I" (.int q))
theorem own_Bx.ext {Z : State} {h h' : Heap} {w : Value} {b q : Int32} (B : own_Bx Z h w b q) (E : Ext h h') : own_Bx Z h' w b q := by
  rcases B with B | ⟨e, r, rfl, X, F⟩
  · exact Or.inl B
  · exact Or.inr ⟨e, r, rfl, X.ext E, F.ext E⟩
theorem own_Bx.keep {Z : State} {h h' : Heap} {w : Value} {b q : Int32} {a : Addr} {C : String} (B : own_Bx Z h w b q) (K : Keep h h' [a]) (X' : Exa Z h a C) (hn : "java/lang/Integer" ≠ C) : own_Bx Z h' w b q := by
  rcases B with B | ⟨e, r, rfl, X, F⟩
  · exact Or.inl B
  · exact Or.inr ⟨e, r, rfl, X.keep K, F.keep K (ninS (ne_exa X X' hn) nin0)⟩
theorem own_Bx.isRef {Z : State} {h : Heap} {w : Value} {b q : Int32} (B : own_Bx Z h w b q) : w.isRef = true := by
  rcases B with ⟨rfl, -⟩ | ⟨-, r, rfl, -, -⟩ <;> rfl
def own_eqv (b1 x1 b2 x2 : Int32) : Int32 := if b1 = 0 then (if b2 = 0 then (if x1 = x2 then 1 else 0) else 0) else (if b2 = 0 then 0 else 1)
theorem own_eqv_self (b z : Int32) : own_eqv b z b z = 1 := by
  unfold own_eqv
  by_cases h : b = 0 <;> simp [h]
theorem own_fld_uniq {Z : State} {h : Heap} {a : Addr} {C n d : String} {v w : Value} (F : Fld Z h a C n d v) (G : Fld Z h a C n d w) : v = w := by
  by_cases q : v = w
  · exact q
  · exact absurd rfl (F.ne G q)
theorem own_selects_private {args : Array Value} {s : State} {y : MethodName} {n : Nat} (hinst : (Jvm.Cond.instanceMethod y).before args s = true) (hpriv : (Jvm.Cond.privateMethod y).before args s = true) (hi : (Jvm.Cond.instantiable y.cls n).before args s = true) (hy : y.cls ≠ "java/lang/invoke/MethodHandle" ∧ y.cls ≠ "java/lang/invoke/VarHandle") : (Jvm.Cond.selects y.cls y y).before args s = true := by
  obtain ⟨mk, methM, hnamed, hmethM, hstM, habM⟩ := Cond.instanceMethod_spec hinst
  have hc := findClass_of_methodNamed hnamed
  obtain ⟨c, k, g1, g2, g3, g4, -⟩ := Cond.instantiable_spec hi
  cases hc.symm.trans g1
  have hf := State.methodFound?_of_named hnamed hy
  have hs : selectMethod {} s.vm mk.cls mk = .method mk := selectMethod_private hmethM (Cond.privateMethod_at hpriv mk methM hnamed hmethM)
  have g5 : k.isInterface = false := by
    simp only [Bool.or_eq_false_iff] at g4
    exact g4.1
  simp [Cond.before, Cond.holds, Cond.value, hc, hf, hnamed, hs, g2, g5]
def Ctx (Z : State) (a0 : Array Value) (w_VSYNC : Addr) (w_HOTPLUG : Addr) (w_MODE : Addr) : Prop := (∀ d ∈ tables_1, d.before a0 Z = true) ∧ Sta Z Z.heap "com/example/framebeat/framebeat/DisplayEvent$Kind" "VSYNC" "Lcom/example/framebeat/framebeat/DisplayEvent$Kind;" (.ref w_VSYNC) ∧ Exa Z Z.heap w_VSYNC "com/example/framebeat/framebeat/DisplayEvent$Kind" ∧ Sta Z Z.heap "com/example/framebeat/framebeat/DisplayEvent$Kind" "HOTPLUG" "Lcom/example/framebeat/framebeat/DisplayEvent$Kind;" (.ref w_HOTPLUG) ∧ Exa Z Z.heap w_HOTPLUG "com/example/framebeat/framebeat/DisplayEvent$Kind" ∧ Sta Z Z.heap "com/example/framebeat/framebeat/DisplayEvent$Kind" "MODE" "Lcom/example/framebeat/framebeat/DisplayEvent$Kind;" (.ref w_MODE) ∧ Exa Z Z.heap w_MODE "com/example/framebeat/framebeat/DisplayEvent$Kind" ∧ True
def Q0 (Z : State) (v : Option Value) (h : Heap) (L : List Loc) : Prop := v = some (.int (1 : Int32)) ∧ Fr Z.heap.size L
def QP (Z : State) (r : Value) (h0 : Heap) (v : Option Value) (h : Heap) (L : List Loc) : Prop := v = some r ∧ Fr Z.heap.size L ∧ h = h0
def QE (Z : State) (r : Value) (h0 : Heap) (v : Option Value) (h : Heap) (L : List Loc) : Prop := v = some r ∧ Fr Z.heap.size L ∧ Ext h0 h
def Q_rm1 (Z : State) (w_VSYNC : Addr) (a1 : Addr) (u_kind : Value) (hu_kind : u_kind.isRef = true) (u_displayId : Int64) (u_timestampNanos : Int64) (u_value : Int64) (u_substitute : Int32) (hu_substitute : u_substitute = 0 ∨ u_substitute = 1) (u_synthetic : Int32) (hu_synthetic : u_synthetic = 0 ∨ u_synthetic = 1) (h0 : Heap) (v : Option Value) (h : Heap) (L : List Loc) : Prop := v = none ∧ Fr Z.heap.size L ∧ Keep h0 h [a1] ∧ Fld Z h a1 "com/example/framebeat/framebeat/DisplayEvent" "kind" "Lcom/example/framebeat/framebeat/DisplayEvent$Kind;" (.ref w_VSYNC) ∧ Fld Z h a1 "com/example/framebeat/framebeat/DisplayEvent" "displayId" "J" (.long u_displayId) ∧ Fld Z h a1 "com/example/framebeat/framebeat/DisplayEvent" "timestampNanos" "J" (.long u_timestampNanos) ∧ Fld Z h a1 "com/example/framebeat/framebeat/DisplayEvent" "value" "J" (.long u_value) ∧ Fld Z h a1 "com/example/framebeat/framebeat/DisplayEvent" "substitute" "Z" (.int u_substitute) ∧ Fld Z h a1 "com/example/framebeat/framebeat/DisplayEvent" "synthetic" "Z" (.int u_synthetic)
theorem d1_0 : decode prog_4_method_1_code 0 = .ok (.aload_n 0, 1) := by decide +kernel
theorem d1_1 : decode prog_4_method_1_code 1 = .ok (.invokespecial 1, 3) := by decide +kernel
theorem d1_4 : decode prog_4_method_1_code 4 = .ok (.aload_n 0, 1) := by decide +kernel
theorem d1_5 : decode prog_4_method_1_code 5 = .ok (.getstatic 7, 3) := by decide +kernel
theorem d1_8 : decode prog_4_method_1_code 8 = .ok (.putfield 13, 3) := by decide +kernel
theorem d1_11 : decode prog_4_method_1_code 11 = .ok (.return_, 1) := by decide +kernel
theorem pn_0 : plainName "com/example/framebeat/framebeat/DisplayEvent" = true := by first | (simp [plainName, overriddenIn]; done) | decide +kernel
set_option maxRecDepth 65536 in
set_option maxHeartbeats 40000000 in
theorem rm1 (l : Launch) (Z : State) (a0 : Array Value) {w_VSYNC : Addr} {w_HOTPLUG : Addr} {w_MODE : Addr} (CX : Ctx Z a0 w_VSYNC w_HOTPLUG w_MODE) (ws : List Jvm.Cond) (a1 : Addr) (u_kind : Value) (hu_kind : u_kind.isRef = true) (u_displayId : Int64) (u_timestampNanos : Int64) (u_value : Int64) (u_substitute : Int32) (hu_substitute : u_substitute = 0 ∨ u_substitute = 1) (u_synthetic : Int32) (hu_synthetic : u_synthetic = 0 ∨ u_synthetic = 1) (h0 : Heap) (O : Ext Z.heap h0) (E_a1 : Exa Z h0 a1 "com/example/framebeat/framebeat/DisplayEvent") (g_a1 : Z.heap.size ≤ a1) (F_kind : Fld Z h0 a1 "com/example/framebeat/framebeat/DisplayEvent" "kind" "Lcom/example/framebeat/framebeat/DisplayEvent$Kind;" u_kind) (F_displayId : Fld Z h0 a1 "com/example/framebeat/framebeat/DisplayEvent" "displayId" "J" (.long u_displayId)) (F_timestampNanos : Fld Z h0 a1 "com/example/framebeat/framebeat/DisplayEvent" "timestampNanos" "J" (.long u_timestampNanos)) (F_value : Fld Z h0 a1 "com/example/framebeat/framebeat/DisplayEvent" "value" "J" (.long u_value)) (F_substitute : Fld Z h0 a1 "com/example/framebeat/framebeat/DisplayEvent" "substitute" "Z" (.int u_substitute)) (F_synthetic : Fld Z h0 a1 "com/example/framebeat/framebeat/DisplayEvent" "synthetic" "Z" (.int u_synthetic)) :
    MetFree l (⟨"com/example/framebeat/framebeat/DisplayEvent", "<init>", "()V"⟩ : MethodName) (head1 (Jvm.Cond.code (⟨"com/example/framebeat/framebeat/DisplayEvent", "<init>", "()V"⟩ : MethodName) prog_4_method_1_code 1 none :: ws) ({ frames := 1, cells := 0, slots := 0, locals := 12 } : Room)) (fun a U => a = #[(.ref a1)] ∧ Z.Warmed39 U.vm ∧ U.heap = h0) (fun _ _ _ _ _ => True) (fun _ U o U' => ∃ v L, o = .returned v ∧ Q_rm1 Z w_VSYNC a1 u_kind hu_kind u_displayId u_timestampNanos u_value u_substitute hu_substitute u_synthetic hu_synthetic h0 v U'.heap L ∧ FrameEnd U o U' L ({ frames := 1, cells := 0, slots := 0, locals := 12 } : Room).cells ({ frames := 1, cells := 0, slots := 0, locals := 12 } : Room).slots) := by
  refine MetFree.of_bodySF (plainFor_of_name pn_0) hisR ?_
  intro p e s m args below meth c s₁ Bd hml0 hP hK
  obtain ⟨rfl, hZ, hh⟩ := hP
  have CX0 := CX
  obtain ⟨hw, S_VSYNC, E_VSYNC, S_HOTPLUG, E_HOTPLUG, S_MODE, E_MODE, -⟩ := CX0
  have hx := Bd.exec
  have hby := Bd.bytes
  have hml : c.maxLocals = 1 := hml0
  have hown : s.vm.findClass "com/example/framebeat/framebeat/DisplayEvent" = some m.cls := findClass_of_methodNamed Bd.named
  have hnm := (name_of_methodNamed Bd.named Bd.method).1
  have hlk : meth.locks = false := BodyLoose.notSynchronized Bd
  have X0 : Stand p l e ({ frames := 1, cells := 0, slots := 0, locals := 12 } : Room) s m #[(.ref a1)] below meth c s₁ [] 0 0 := Stand.of_body Bd
  have e0 : s₁.heap = h0 := by rw [← hh, Bd.state]; rfl
  have N := Fr.nil Z.heap.size
  show own_Done p.tables e below (own_R (Q_rm1 Z w_VSYNC a1 u_kind hu_kind u_displayId u_timestampNanos u_value u_substitute hu_substitute u_synthetic hu_synthetic h0) s 0 0) s₁ (entryFrame m #[(.ref a1)] 1)
  refine own_st (T' := s₁) (F' := (mkF m 0 #[.val (.ref a1)] [])) (fun t k => castTop (by first | (simp [entryFrame, mkF, argsToLocals, Value.category]; done) | rfl) k) ?_
  have KP := Keep.refl h0 [a1]
  refine own_st (T' := s₁) (F' := (mkF m 1 #[.val (.ref a1)] [(.ref a1)])) (fun t k => XS.aloadN X0.here hx rfl (hb hby d1_0) rfl rfl k) ?_
  obtain ⟨T1, X1, e1, st1⟩ := initO X0 hx hZ hown (hw _ (List.mem_of_getElem? (i := 10) rfl)) (hw _ (List.mem_of_getElem? (i := 11) rfl)) (hw _ (List.mem_of_getElem? (i := 12) rfl)) e0 (g := (mkF m 1 #[.val (.ref a1)] [(.ref a1)])) rfl (by rw [hml]; rfl) rfl (hb hby d1_1) (by decide) (W := 0) (by show 2 * 0 + _ ≤ _; exact Nat.le_of_eq rfl) (by decide)
  refine own_st (T' := T1) (F' := (mkF m 4 #[.val (.ref a1)] [])) st1 ?_
  refine own_st (T' := T1) (F' := (mkF m 5 #[.val (.ref a1)] [(.ref a1)])) (fun t k => XS.aloadN X1.here hx rfl (hb hby d1_4) rfl rfl k) ?_
  obtain ⟨T2, X2, e2, st2⟩ := getS2 X1 hx hZ hown (host := "") (Or.inl (hw _ (List.mem_of_getElem? (i := 13) rfl))) Via.refl e1 (S_VSYNC.ext O) (g := (mkF m 5 #[.val (.ref a1)] [(.ref a1)])) rfl (hb hby d1_5)
  refine own_st (T' := T2) (F' := (mkF m 8 #[.val (.ref a1)] [(.ref w_VSYNC), (.ref a1)])) st2 ?_
  obtain ⟨T3, h3, X3, e3, W3, st3⟩ := putF X2 hx hZ hown (host := "") (Or.inl (hw _ (List.mem_of_getElem? (i := 14) rfl))) Via.refl e2 F_kind E_a1 (Or.inl (hw _ (List.mem_of_getElem? (i := 15) rfl))) (hw _ (List.mem_of_getElem? (i := 5) rfl)) (ty := (.object "com/example/framebeat/framebeat/DisplayEvent$Kind")) (by decide) rfl rfl (g := (mkF m 8 #[.val (.ref a1)] [(.ref w_VSYNC), (.ref a1)])) rfl rfl (hb hby d1_8)
  have E_a1 := E_a1.wr W3
  have F_displayId := F_displayId.other W3 (Or.inr (slot_ne (Or.inl (hw _ (List.mem_of_getElem? (i := 22) rfl))) (Or.inl (hw _ (List.mem_of_getElem? (i := 15) rfl))) (by decide) (t := .long) (t' := (.object "com/example/framebeat/framebeat/DisplayEvent$Kind")) (by decide) (by decide)))
  have F_timestampNanos := F_timestampNanos.other W3 (Or.inr (slot_ne (Or.inl (hw _ (List.mem_of_getElem? (i := 24) rfl))) (Or.inl (hw _ (List.mem_of_getElem? (i := 15) rfl))) (by decide) (t := .long) (t' := (.object "com/example/framebeat/framebeat/DisplayEvent$Kind")) (by decide) (by decide)))
  have F_value := F_value.other W3 (Or.inr (slot_ne (Or.inl (hw _ (List.mem_of_getElem? (i := 26) rfl))) (Or.inl (hw _ (List.mem_of_getElem? (i := 15) rfl))) (by decide) (t := .long) (t' := (.object "com/example/framebeat/framebeat/DisplayEvent$Kind")) (by decide) (by decide)))
  have F_substitute := F_substitute.other W3 (Or.inr (slot_ne (Or.inl (hw _ (List.mem_of_getElem? (i := 28) rfl))) (Or.inl (hw _ (List.mem_of_getElem? (i := 15) rfl))) (by decide) (t := .boolean) (t' := (.object "com/example/framebeat/framebeat/DisplayEvent$Kind")) (by decide) (by decide)))
  have F_synthetic := F_synthetic.other W3 (Or.inr (slot_ne (Or.inl (hw _ (List.mem_of_getElem? (i := 30) rfl))) (Or.inl (hw _ (List.mem_of_getElem? (i := 15) rfl))) (by decide) (t := .boolean) (t' := (.object "com/example/framebeat/framebeat/DisplayEvent$Kind")) (by decide) (by decide)))
  have O := own_O_wr O W3 g_a1
  have N := Fr.snoc X3 N g_a1
  have KP := KP.wr W3 (Or.inl (List.mem_of_getElem? (i := 0) rfl))
  have F_kind := F_kind.same W3
  refine own_st (T' := T3) (F' := (mkF m 11 #[.val (.ref a1)] [])) st3 ?_
  exact own_retV X3 hx Bd.returns (hb hby d1_11) hlk (by show Q_rm1 Z w_VSYNC a1 u_kind hu_kind u_displayId u_timestampNanos u_value u_substitute hu_substitute u_synthetic hu_synthetic h0 _ T3.heap _; rw [e3]; exact ⟨rfl, N, KP, F_kind, F_displayId, F_timestampNanos, F_value, F_substitute, F_synthetic⟩) (by decide) (by decide)
def Q_rm3 (Z : State) (a1 : Addr) (p1 : Value) (hp1 : p1.isRef = true) (p2 : Int64) (p3 : Int64) (p4 : Int64) (p5 : Int32) (hp5 : p5 = 0 ∨ p5 = 1) (p6 : Int32) (hp6 : p6 = 0 ∨ p6 = 1) (u_kind : Value) (hu_kind : u_kind.isRef = true) (u_displayId : Int64) (u_timestampNanos : Int64) (u_value : Int64) (u_substitute : Int32) (hu_substitute : u_substitute = 0 ∨ u_substitute = 1) (u_synthetic : Int32) (hu_synthetic : u_synthetic = 0 ∨ u_synthetic = 1) (h0 : Heap) (v : Option Value) (h : Heap) (L : List Loc) : Prop := v = none ∧ Fr Z.heap.size L ∧ Keep h0 h [a1] ∧ Fld Z h a1 "com/example/framebeat/framebeat/DisplayEvent" "kind" "Lcom/example/framebeat/framebeat/DisplayEvent$Kind;" p1 ∧ Fld Z h a1 "com/example/framebeat/framebeat/DisplayEvent" "displayId" "J" (.long p2) ∧ Fld Z h a1 "com/example/framebeat/framebeat/DisplayEvent" "timestampNanos" "J" (.long p3) ∧ Fld Z h a1 "com/example/framebeat/framebeat/DisplayEvent" "value" "J" (.long p4) ∧ Fld Z h a1 "com/example/framebeat/framebeat/DisplayEvent" "substitute" "Z" (.int p5) ∧ Fld Z h a1 "com/example/framebeat/framebeat/DisplayEvent" "synthetic" "Z" (.int p6)
theorem d3_0 : decode prog_4_method_11_code 0 = .ok (.aload_n 0, 1) := by decide +kernel
theorem d3_1 : decode prog_4_method_11_code 1 = .ok (.aload_n 1, 1) := by decide +kernel
theorem d3_2 : decode prog_4_method_11_code 2 = .ok (.putfield 13, 3) := by decide +kernel
theorem d3_5 : decode prog_4_method_11_code 5 = .ok (.aload_n 0, 1) := by decide +kernel
theorem d3_6 : decode prog_4_method_11_code 6 = .ok (.lload_n 2, 1) := by decide +kernel
theorem d3_7 : decode prog_4_method_11_code 7 = .ok (.putfield 18, 3) := by decide +kernel
theorem d3_10 : decode prog_4_method_11_code 10 = .ok (.aload_n 0, 1) := by decide +kernel
theorem d3_11 : decode prog_4_method_11_code 11 = .ok (.lload 4, 2) := by decide +kernel
theorem d3_13 : decode prog_4_method_11_code 13 = .ok (.putfield 22, 3) := by decide +kernel
theorem d3_16 : decode prog_4_method_11_code 16 = .ok (.aload_n 0, 1) := by decide +kernel
theorem d3_17 : decode prog_4_method_11_code 17 = .ok (.lload 6, 2) := by decide +kernel
theorem d3_19 : decode prog_4_method_11_code 19 = .ok (.putfield 61, 3) := by decide +kernel
theorem d3_22 : decode prog_4_method_11_code 22 = .ok (.aload_n 0, 1) := by decide +kernel
theorem d3_23 : decode prog_4_method_11_code 23 = .ok (.iload 8, 2) := by decide +kernel
theorem d3_25 : decode prog_4_method_11_code 25 = .ok (.putfield 41, 3) := by decide +kernel
theorem d3_28 : decode prog_4_method_11_code 28 = .ok (.aload_n 0, 1) := by decide +kernel
theorem d3_29 : decode prog_4_method_11_code 29 = .ok (.iload 9, 2) := by decide +kernel
theorem d3_31 : decode prog_4_method_11_code 31 = .ok (.putfield 45, 3) := by decide +kernel
theorem d3_34 : decode prog_4_method_11_code 34 = .ok (.return_, 1) := by decide +kernel
theorem cast_rm3 (m : MethodId) (a1 : Addr) (p1 : Value) (hp1 : p1.isRef = true) (p2 : Int64) (p3 : Int64) (p4 : Int64) (p5 : Int32) (p6 : Int32) : entryFrame m #[(.ref a1), p1, (.long p2), (.long p3), (.long p4), (.int p5), (.int p6)] 10 = (mkF m 0 #[.val (.ref a1), .val p1, .val (.long p2), .second, .val (.long p3), .second, .val (.long p4), .second, .val (.int p5), .val (.int p6)] []) := by
  simp [entryFrame, mkF, argsToLocals, own_cI, own_cJ, own_cR, own_cN, own_cat1 hp1]
set_option maxRecDepth 65536 in
set_option maxHeartbeats 40000000 in
theorem rm3 (l : Launch) (Z : State) (a0 : Array Value) {w_VSYNC : Addr} {w_HOTPLUG : Addr} {w_MODE : Addr} (CX : Ctx Z a0 w_VSYNC w_HOTPLUG w_MODE) (ws : List Jvm.Cond) (a1 : Addr) (p1 : Value) (hp1 : p1.isRef = true) (p2 : Int64) (p3 : Int64) (p4 : Int64) (p5 : Int32) (hp5 : p5 = 0 ∨ p5 = 1) (p6 : Int32) (hp6 : p6 = 0 ∨ p6 = 1) (u_kind : Value) (hu_kind : u_kind.isRef = true) (u_displayId : Int64) (u_timestampNanos : Int64) (u_value : Int64) (u_substitute : Int32) (hu_substitute : u_substitute = 0 ∨ u_substitute = 1) (u_synthetic : Int32) (hu_synthetic : u_synthetic = 0 ∨ u_synthetic = 1) (h0 : Heap) (O : Ext Z.heap h0) (E_a1 : Exa Z h0 a1 "com/example/framebeat/framebeat/DisplayEvent") (g_a1 : Z.heap.size ≤ a1) (F_kind : Fld Z h0 a1 "com/example/framebeat/framebeat/DisplayEvent" "kind" "Lcom/example/framebeat/framebeat/DisplayEvent$Kind;" u_kind) (F_displayId : Fld Z h0 a1 "com/example/framebeat/framebeat/DisplayEvent" "displayId" "J" (.long u_displayId)) (F_timestampNanos : Fld Z h0 a1 "com/example/framebeat/framebeat/DisplayEvent" "timestampNanos" "J" (.long u_timestampNanos)) (F_value : Fld Z h0 a1 "com/example/framebeat/framebeat/DisplayEvent" "value" "J" (.long u_value)) (F_substitute : Fld Z h0 a1 "com/example/framebeat/framebeat/DisplayEvent" "substitute" "Z" (.int u_substitute)) (F_synthetic : Fld Z h0 a1 "com/example/framebeat/framebeat/DisplayEvent" "synthetic" "Z" (.int u_synthetic)) :
    MetFree l (⟨"com/example/framebeat/framebeat/DisplayEvent", "set", "(Lcom/example/framebeat/framebeat/DisplayEvent$Kind;JJJZZ)V"⟩ : MethodName) (head1 (Jvm.Cond.code (⟨"com/example/framebeat/framebeat/DisplayEvent", "set", "(Lcom/example/framebeat/framebeat/DisplayEvent$Kind;JJJZZ)V"⟩ : MethodName) prog_4_method_11_code 10 none :: ws) ({ frames := 0, cells := 0, slots := 0, locals := 0 } : Room)) (fun a U => a = #[(.ref a1), p1, (.long p2), (.long p3), (.long p4), (.int p5), (.int p6)] ∧ Z.Warmed39 U.vm ∧ U.heap = h0) (fun _ _ _ _ _ => True) (fun _ U o U' => ∃ v L, o = .returned v ∧ Q_rm3 Z a1 p1 hp1 p2 p3 p4 p5 hp5 p6 hp6 u_kind hu_kind u_displayId u_timestampNanos u_value u_substitute hu_substitute u_synthetic hu_synthetic h0 v U'.heap L ∧ FrameEnd U o U' L ({ frames := 0, cells := 0, slots := 0, locals := 0 } : Room).cells ({ frames := 0, cells := 0, slots := 0, locals := 0 } : Room).slots) := by
  refine MetFree.of_bodySF (plainFor_of_name pn_0) hisR ?_
  intro p e s m args below meth c s₁ Bd hml0 hP hK
  obtain ⟨rfl, hZ, hh⟩ := hP
  have CX0 := CX
  obtain ⟨hw, S_VSYNC, E_VSYNC, S_HOTPLUG, E_HOTPLUG, S_MODE, E_MODE, -⟩ := CX0
  have hx := Bd.exec
  have hby := Bd.bytes
  have hml : c.maxLocals = 10 := hml0
  have hown : s.vm.findClass "com/example/framebeat/framebeat/DisplayEvent" = some m.cls := findClass_of_methodNamed Bd.named
  have hnm := (name_of_methodNamed Bd.named Bd.method).1
  have hlk : meth.locks = false := BodyLoose.notSynchronized Bd
  have X0 : Stand p l e ({ frames := 0, cells := 0, slots := 0, locals := 0 } : Room) s m #[(.ref a1), p1, (.long p2), (.long p3), (.long p4), (.int p5), (.int p6)] below meth c s₁ [] 0 0 := Stand.of_body Bd
  have e0 : s₁.heap = h0 := by rw [← hh, Bd.state]; rfl
  have N := Fr.nil Z.heap.size
  show own_Done p.tables e below (own_R (Q_rm3 Z a1 p1 hp1 p2 p3 p4 p5 hp5 p6 hp6 u_kind hu_kind u_displayId u_timestampNanos u_value u_substitute hu_substitute u_synthetic hu_synthetic h0) s 0 0) s₁ (entryFrame m #[(.ref a1), p1, (.long p2), (.long p3), (.long p4), (.int p5), (.int p6)] 10)
  refine own_st (T' := s₁) (F' := (mkF m 0 #[.val (.ref a1), .val p1, .val (.long p2), .second, .val (.long p3), .second, .val (.long p4), .second, .val (.int p5), .val (.int p6)] [])) (fun t k => castTop (cast_rm3 m a1 p1 hp1 p2 p3 p4 p5 p6) k) ?_
  have KP := Keep.refl h0 [a1]
  refine own_st (T' := s₁) (F' := (mkF m 1 #[.val (.ref a1), .val p1, .val (.long p2), .second, .val (.long p3), .second, .val (.long p4), .second, .val (.int p5), .val (.int p6)] [(.ref a1)])) (fun t k => XS.aloadN X0.here hx rfl (hb hby d3_0) rfl rfl k) ?_
  refine own_st (T' := s₁) (F' := (mkF m 2 #[.val (.ref a1), .val p1, .val (.long p2), .second, .val (.long p3), .second, .val (.long p4), .second, .val (.int p5), .val (.int p6)] [p1, (.ref a1)])) (fun t k => XS.aloadN X0.here hx rfl (hb hby d3_1) rfl hp1 k) ?_
  obtain ⟨T1, h1, X1, e1, W1, st1⟩ := putF X0 hx hZ hown (host := "") (Or.inl (hw _ (List.mem_of_getElem? (i := 14) rfl))) Via.refl e0 F_kind E_a1 (Or.inl (hw _ (List.mem_of_getElem? (i := 15) rfl))) (hw _ (List.mem_of_getElem? (i := 5) rfl)) (ty := (.object "com/example/framebeat/framebeat/DisplayEvent$Kind")) (by decide) (own_narrow hp1) (own_fits rfl hp1) (g := (mkF m 2 #[.val (.ref a1), .val p1, .val (.long p2), .second, .val (.long p3), .second, .val (.long p4), .second, .val (.int p5), .val (.int p6)] [p1, (.ref a1)])) rfl rfl (hb hby d3_2)
  have E_a1 := E_a1.wr W1
  have F_displayId := F_displayId.other W1 (Or.inr (slot_ne (Or.inl (hw _ (List.mem_of_getElem? (i := 22) rfl))) (Or.inl (hw _ (List.mem_of_getElem? (i := 15) rfl))) (by decide) (t := .long) (t' := (.object "com/example/framebeat/framebeat/DisplayEvent$Kind")) (by decide) (by decide)))
  have F_timestampNanos := F_timestampNanos.other W1 (Or.inr (slot_ne (Or.inl (hw _ (List.mem_of_getElem? (i := 24) rfl))) (Or.inl (hw _ (List.mem_of_getElem? (i := 15) rfl))) (by decide) (t := .long) (t' := (.object "com/example/framebeat/framebeat/DisplayEvent$Kind")) (by decide) (by decide)))
  have F_value := F_value.other W1 (Or.inr (slot_ne (Or.inl (hw _ (List.mem_of_getElem? (i := 26) rfl))) (Or.inl (hw _ (List.mem_of_getElem? (i := 15) rfl))) (by decide) (t := .long) (t' := (.object "com/example/framebeat/framebeat/DisplayEvent$Kind")) (by decide) (by decide)))
  have F_substitute := F_substitute.other W1 (Or.inr (slot_ne (Or.inl (hw _ (List.mem_of_getElem? (i := 28) rfl))) (Or.inl (hw _ (List.mem_of_getElem? (i := 15) rfl))) (by decide) (t := .boolean) (t' := (.object "com/example/framebeat/framebeat/DisplayEvent$Kind")) (by decide) (by decide)))
  have F_synthetic := F_synthetic.other W1 (Or.inr (slot_ne (Or.inl (hw _ (List.mem_of_getElem? (i := 30) rfl))) (Or.inl (hw _ (List.mem_of_getElem? (i := 15) rfl))) (by decide) (t := .boolean) (t' := (.object "com/example/framebeat/framebeat/DisplayEvent$Kind")) (by decide) (by decide)))
  have O := own_O_wr O W1 g_a1
  have N := Fr.snoc X1 N g_a1
  have KP := KP.wr W1 (Or.inl (List.mem_of_getElem? (i := 0) rfl))
  have F_kind := F_kind.same W1
  refine own_st (T' := T1) (F' := (mkF m 5 #[.val (.ref a1), .val p1, .val (.long p2), .second, .val (.long p3), .second, .val (.long p4), .second, .val (.int p5), .val (.int p6)] [])) st1 ?_
  refine own_st (T' := T1) (F' := (mkF m 6 #[.val (.ref a1), .val p1, .val (.long p2), .second, .val (.long p3), .second, .val (.long p4), .second, .val (.int p5), .val (.int p6)] [(.ref a1)])) (fun t k => XS.aloadN X1.here hx rfl (hb hby d3_5) rfl rfl k) ?_
  refine own_st (T' := T1) (F' := (mkF m 7 #[.val (.ref a1), .val p1, .val (.long p2), .second, .val (.long p3), .second, .val (.long p4), .second, .val (.int p5), .val (.int p6)] [(.long p2), (.ref a1)])) (fun t k => XS.lloadN X1.here hx rfl (hb hby d3_6) rfl k) ?_
  obtain ⟨T2, h2, X2, e2, W2, st2⟩ := putF X1 hx hZ hown (host := "") (Or.inl (hw _ (List.mem_of_getElem? (i := 21) rfl))) Via.refl e1 F_displayId E_a1 (Or.inl (hw _ (List.mem_of_getElem? (i := 22) rfl))) (hw _ (List.mem_of_getElem? (i := 5) rfl)) (ty := .long) (by decide) rfl rfl (g := (mkF m 7 #[.val (.ref a1), .val p1, .val (.long p2), .second, .val (.long p3), .second, .val (.long p4), .second, .val (.int p5), .val (.int p6)] [(.long p2), (.ref a1)])) rfl rfl (hb hby d3_7)
  have E_a1 := E_a1.wr W2
  have F_kind := F_kind.other W2 (Or.inr (slot_ne (Or.inl (hw _ (List.mem_of_getElem? (i := 15) rfl))) (Or.inl (hw _ (List.mem_of_getElem? (i := 22) rfl))) (by decide) (t := (.object "com/example/framebeat/framebeat/DisplayEvent$Kind")) (t' := .long) (by decide) (by decide)))
  have F_timestampNanos := F_timestampNanos.other W2 (Or.inr (slot_ne (Or.inl (hw _ (List.mem_of_getElem? (i := 24) rfl))) (Or.inl (hw _ (List.mem_of_getElem? (i := 22) rfl))) (by decide) (t := .long) (t' := .long) (by decide) (by decide)))
  have F_value := F_value.other W2 (Or.inr (slot_ne (Or.inl (hw _ (List.mem_of_getElem? (i := 26) rfl))) (Or.inl (hw _ (List.mem_of_getElem? (i := 22) rfl))) (by decide) (t := .long) (t' := .long) (by decide) (by decide)))
  have F_substitute := F_substitute.other W2 (Or.inr (slot_ne (Or.inl (hw _ (List.mem_of_getElem? (i := 28) rfl))) (Or.inl (hw _ (List.mem_of_getElem? (i := 22) rfl))) (by decide) (t := .boolean) (t' := .long) (by decide) (by decide)))
  have F_synthetic := F_synthetic.other W2 (Or.inr (slot_ne (Or.inl (hw _ (List.mem_of_getElem? (i := 30) rfl))) (Or.inl (hw _ (List.mem_of_getElem? (i := 22) rfl))) (by decide) (t := .boolean) (t' := .long) (by decide) (by decide)))
  have O := own_O_wr O W2 g_a1
  have N := Fr.snoc X2 N g_a1
  have KP := KP.wr W2 (Or.inl (List.mem_of_getElem? (i := 0) rfl))
  have F_displayId := F_displayId.same W2
  refine own_st (T' := T2) (F' := (mkF m 10 #[.val (.ref a1), .val p1, .val (.long p2), .second, .val (.long p3), .second, .val (.long p4), .second, .val (.int p5), .val (.int p6)] [])) st2 ?_
  refine own_st (T' := T2) (F' := (mkF m 11 #[.val (.ref a1), .val p1, .val (.long p2), .second, .val (.long p3), .second, .val (.long p4), .second, .val (.int p5), .val (.int p6)] [(.ref a1)])) (fun t k => XS.aloadN X2.here hx rfl (hb hby d3_10) rfl rfl k) ?_
  refine own_st (T' := T2) (F' := (mkF m 13 #[.val (.ref a1), .val p1, .val (.long p2), .second, .val (.long p3), .second, .val (.long p4), .second, .val (.int p5), .val (.int p6)] [(.long p3), (.ref a1)])) (fun t k => XS.lload X2.here hx rfl (hb hby d3_11) rfl k) ?_
  obtain ⟨T3, h3, X3, e3, W3, st3⟩ := putF X2 hx hZ hown (host := "") (Or.inl (hw _ (List.mem_of_getElem? (i := 23) rfl))) Via.refl e2 F_timestampNanos E_a1 (Or.inl (hw _ (List.mem_of_getElem? (i := 24) rfl))) (hw _ (List.mem_of_getElem? (i := 5) rfl)) (ty := .long) (by decide) rfl rfl (g := (mkF m 13 #[.val (.ref a1), .val p1, .val (.long p2), .second, .val (.long p3), .second, .val (.long p4), .second, .val (.int p5), .val (.int p6)] [(.long p3), (.ref a1)])) rfl rfl (hb hby d3_13)
  have E_a1 := E_a1.wr W3
  have F_kind := F_kind.other W3 (Or.inr (slot_ne (Or.inl (hw _ (List.mem_of_getElem? (i := 15) rfl))) (Or.inl (hw _ (List.mem_of_getElem? (i := 24) rfl))) (by decide) (t := (.object "com/example/framebeat/framebeat/DisplayEvent$Kind")) (t' := .long) (by decide) (by decide)))
  have F_displayId := F_displayId.other W3 (Or.inr (slot_ne (Or.inl (hw _ (List.mem_of_getElem? (i := 22) rfl))) (Or.inl (hw _ (List.mem_of_getElem? (i := 24) rfl))) (by decide) (t := .long) (t' := .long) (by decide) (by decide)))
  have F_value := F_value.other W3 (Or.inr (slot_ne (Or.inl (hw _ (List.mem_of_getElem? (i := 26) rfl))) (Or.inl (hw _ (List.mem_of_getElem? (i := 24) rfl))) (by decide) (t := .long) (t' := .long) (by decide) (by decide)))
  have F_substitute := F_substitute.other W3 (Or.inr (slot_ne (Or.inl (hw _ (List.mem_of_getElem? (i := 28) rfl))) (Or.inl (hw _ (List.mem_of_getElem? (i := 24) rfl))) (by decide) (t := .boolean) (t' := .long) (by decide) (by decide)))
  have F_synthetic := F_synthetic.other W3 (Or.inr (slot_ne (Or.inl (hw _ (List.mem_of_getElem? (i := 30) rfl))) (Or.inl (hw _ (List.mem_of_getElem? (i := 24) rfl))) (by decide) (t := .boolean) (t' := .long) (by decide) (by decide)))
  have O := own_O_wr O W3 g_a1
  have N := Fr.snoc X3 N g_a1
  have KP := KP.wr W3 (Or.inl (List.mem_of_getElem? (i := 0) rfl))
  have F_timestampNanos := F_timestampNanos.same W3
  refine own_st (T' := T3) (F' := (mkF m 16 #[.val (.ref a1), .val p1, .val (.long p2), .second, .val (.long p3), .second, .val (.long p4), .second, .val (.int p5), .val (.int p6)] [])) st3 ?_
  refine own_st (T' := T3) (F' := (mkF m 17 #[.val (.ref a1), .val p1, .val (.long p2), .second, .val (.long p3), .second, .val (.long p4), .second, .val (.int p5), .val (.int p6)] [(.ref a1)])) (fun t k => XS.aloadN X3.here hx rfl (hb hby d3_16) rfl rfl k) ?_
  refine own_st (T' := T3) (F' := (mkF m 19 #[.val (.ref a1), .val p1, .val (.long p2), .second, .val (.long p3), .second, .val (.long p4), .second, .val (.int p5), .val (.int p6)] [(.long p4), (.ref a1)])) (fun t k => XS.lload X3.here hx rfl (hb hby d3_17) rfl k) ?_
  obtain ⟨T4, h4, X4, e4, W4, st4⟩ := putF X3 hx hZ hown (host := "") (Or.inl (hw _ (List.mem_of_getElem? (i := 25) rfl))) Via.refl e3 F_value E_a1 (Or.inl (hw _ (List.mem_of_getElem? (i := 26) rfl))) (hw _ (List.mem_of_getElem? (i := 5) rfl)) (ty := .long) (by decide) rfl rfl (g := (mkF m 19 #[.val (.ref a1), .val p1, .val (.long p2), .second, .val (.long p3), .second, .val (.long p4), .second, .val (.int p5), .val (.int p6)] [(.long p4), (.ref a1)])) rfl rfl (hb hby d3_19)
  have E_a1 := E_a1.wr W4
  have F_kind := F_kind.other W4 (Or.inr (slot_ne (Or.inl (hw _ (List.mem_of_getElem? (i := 15) rfl))) (Or.inl (hw _ (List.mem_of_getElem? (i := 26) rfl))) (by decide) (t := (.object "com/example/framebeat/framebeat/DisplayEvent$Kind")) (t' := .long) (by decide) (by decide)))
  have F_displayId := F_displayId.other W4 (Or.inr (slot_ne (Or.inl (hw _ (List.mem_of_getElem? (i := 22) rfl))) (Or.inl (hw _ (List.mem_of_getElem? (i := 26) rfl))) (by decide) (t := .long) (t' := .long) (by decide) (by decide)))
  have F_timestampNanos := F_timestampNanos.other W4 (Or.inr (slot_ne (Or.inl (hw _ (List.mem_of_getElem? (i := 24) rfl))) (Or.inl (hw _ (List.mem_of_getElem? (i := 26) rfl))) (by decide) (t := .long) (t' := .long) (by decide) (by decide)))
  have F_substitute := F_substitute.other W4 (Or.inr (slot_ne (Or.inl (hw _ (List.mem_of_getElem? (i := 28) rfl))) (Or.inl (hw _ (List.mem_of_getElem? (i := 26) rfl))) (by decide) (t := .boolean) (t' := .long) (by decide) (by decide)))
  have F_synthetic := F_synthetic.other W4 (Or.inr (slot_ne (Or.inl (hw _ (List.mem_of_getElem? (i := 30) rfl))) (Or.inl (hw _ (List.mem_of_getElem? (i := 26) rfl))) (by decide) (t := .boolean) (t' := .long) (by decide) (by decide)))
  have O := own_O_wr O W4 g_a1
  have N := Fr.snoc X4 N g_a1
  have KP := KP.wr W4 (Or.inl (List.mem_of_getElem? (i := 0) rfl))
  have F_value := F_value.same W4
  refine own_st (T' := T4) (F' := (mkF m 22 #[.val (.ref a1), .val p1, .val (.long p2), .second, .val (.long p3), .second, .val (.long p4), .second, .val (.int p5), .val (.int p6)] [])) st4 ?_
  refine own_st (T' := T4) (F' := (mkF m 23 #[.val (.ref a1), .val p1, .val (.long p2), .second, .val (.long p3), .second, .val (.long p4), .second, .val (.int p5), .val (.int p6)] [(.ref a1)])) (fun t k => XS.aloadN X4.here hx rfl (hb hby d3_22) rfl rfl k) ?_
  refine own_st (T' := T4) (F' := (mkF m 25 #[.val (.ref a1), .val p1, .val (.long p2), .second, .val (.long p3), .second, .val (.long p4), .second, .val (.int p5), .val (.int p6)] [(.int p5), (.ref a1)])) (fun t k => XS.iload X4.here hx rfl (hb hby d3_23) rfl k) ?_
  obtain ⟨T5, h5, X5, e5, W5, st5⟩ := putFN X4 hx hZ hown (hw _ (List.mem_of_getElem? (i := 27) rfl)) Via.refl e4 F_substitute E_a1 (Or.inl (hw _ (List.mem_of_getElem? (i := 28) rfl))) (hw _ (List.mem_of_getElem? (i := 5) rfl)) (ty := .boolean) (v' := (.int p5)) (by decide) (own_nb hp5) (own_fb hp5) (g := (mkF m 25 #[.val (.ref a1), .val p1, .val (.long p2), .second, .val (.long p3), .second, .val (.long p4), .second, .val (.int p5), .val (.int p6)] [(.int p5), (.ref a1)])) rfl rfl (hb hby d3_25)
  have E_a1 := E_a1.wr W5
  have F_kind := F_kind.other W5 (Or.inr (slot_ne (Or.inl (hw _ (List.mem_of_getElem? (i := 15) rfl))) (Or.inl (hw _ (List.mem_of_getElem? (i := 28) rfl))) (by decide) (t := (.object "com/example/framebeat/framebeat/DisplayEvent$Kind")) (t' := .boolean) (by decide) (by decide)))
  have F_displayId := F_displayId.other W5 (Or.inr (slot_ne (Or.inl (hw _ (List.mem_of_getElem? (i := 22) rfl))) (Or.inl (hw _ (List.mem_of_getElem? (i := 28) rfl))) (by decide) (t := .long) (t' := .boolean) (by decide) (by decide)))
  have F_timestampNanos := F_timestampNanos.other W5 (Or.inr (slot_ne (Or.inl (hw _ (List.mem_of_getElem? (i := 24) rfl))) (Or.inl (hw _ (List.mem_of_getElem? (i := 28) rfl))) (by decide) (t := .long) (t' := .boolean) (by decide) (by decide)))
  have F_value := F_value.other W5 (Or.inr (slot_ne (Or.inl (hw _ (List.mem_of_getElem? (i := 26) rfl))) (Or.inl (hw _ (List.mem_of_getElem? (i := 28) rfl))) (by decide) (t := .long) (t' := .boolean) (by decide) (by decide)))
  have F_synthetic := F_synthetic.other W5 (Or.inr (slot_ne (Or.inl (hw _ (List.mem_of_getElem? (i := 30) rfl))) (Or.inl (hw _ (List.mem_of_getElem? (i := 28) rfl))) (by decide) (t := .boolean) (t' := .boolean) (by decide) (by decide)))
  have O := own_O_wr O W5 g_a1
  have N := Fr.snoc X5 N g_a1
  have KP := KP.wr W5 (Or.inl (List.mem_of_getElem? (i := 0) rfl))
  have F_substitute := F_substitute.same W5
  refine own_st (T' := T5) (F' := (mkF m 28 #[.val (.ref a1), .val p1, .val (.long p2), .second, .val (.long p3), .second, .val (.long p4), .second, .val (.int p5), .val (.int p6)] [])) st5 ?_
  refine own_st (T' := T5) (F' := (mkF m 29 #[.val (.ref a1), .val p1, .val (.long p2), .second, .val (.long p3), .second, .val (.long p4), .second, .val (.int p5), .val (.int p6)] [(.ref a1)])) (fun t k => XS.aloadN X5.here hx rfl (hb hby d3_28) rfl rfl k) ?_
  refine own_st (T' := T5) (F' := (mkF m 31 #[.val (.ref a1), .val p1, .val (.long p2), .second, .val (.long p3), .second, .val (.long p4), .second, .val (.int p5), .val (.int p6)] [(.int p6), (.ref a1)])) (fun t k => XS.iload X5.here hx rfl (hb hby d3_29) rfl k) ?_
  obtain ⟨T6, h6, X6, e6, W6, st6⟩ := putFN X5 hx hZ hown (hw _ (List.mem_of_getElem? (i := 29) rfl)) Via.refl e5 F_synthetic E_a1 (Or.inl (hw _ (List.mem_of_getElem? (i := 30) rfl))) (hw _ (List.mem_of_getElem? (i := 5) rfl)) (ty := .boolean) (v' := (.int p6)) (by decide) (own_nb hp6) (own_fb hp6) (g := (mkF m 31 #[.val (.ref a1), .val p1, .val (.long p2), .second, .val (.long p3), .second, .val (.long p4), .second, .val (.int p5), .val (.int p6)] [(.int p6), (.ref a1)])) rfl rfl (hb hby d3_31)
  have E_a1 := E_a1.wr W6
  have F_kind := F_kind.other W6 (Or.inr (slot_ne (Or.inl (hw _ (List.mem_of_getElem? (i := 15) rfl))) (Or.inl (hw _ (List.mem_of_getElem? (i := 30) rfl))) (by decide) (t := (.object "com/example/framebeat/framebeat/DisplayEvent$Kind")) (t' := .boolean) (by decide) (by decide)))
  have F_displayId := F_displayId.other W6 (Or.inr (slot_ne (Or.inl (hw _ (List.mem_of_getElem? (i := 22) rfl))) (Or.inl (hw _ (List.mem_of_getElem? (i := 30) rfl))) (by decide) (t := .long) (t' := .boolean) (by decide) (by decide)))
  have F_timestampNanos := F_timestampNanos.other W6 (Or.inr (slot_ne (Or.inl (hw _ (List.mem_of_getElem? (i := 24) rfl))) (Or.inl (hw _ (List.mem_of_getElem? (i := 30) rfl))) (by decide) (t := .long) (t' := .boolean) (by decide) (by decide)))
  have F_value := F_value.other W6 (Or.inr (slot_ne (Or.inl (hw _ (List.mem_of_getElem? (i := 26) rfl))) (Or.inl (hw _ (List.mem_of_getElem? (i := 30) rfl))) (by decide) (t := .long) (t' := .boolean) (by decide) (by decide)))
  have F_substitute := F_substitute.other W6 (Or.inr (slot_ne (Or.inl (hw _ (List.mem_of_getElem? (i := 28) rfl))) (Or.inl (hw _ (List.mem_of_getElem? (i := 30) rfl))) (by decide) (t := .boolean) (t' := .boolean) (by decide) (by decide)))
  have O := own_O_wr O W6 g_a1
  have N := Fr.snoc X6 N g_a1
  have KP := KP.wr W6 (Or.inl (List.mem_of_getElem? (i := 0) rfl))
  have F_synthetic := F_synthetic.same W6
  refine own_st (T' := T6) (F' := (mkF m 34 #[.val (.ref a1), .val p1, .val (.long p2), .second, .val (.long p3), .second, .val (.long p4), .second, .val (.int p5), .val (.int p6)] [])) st6 ?_
  exact own_retV X6 hx Bd.returns (hb hby d3_34) hlk (by show Q_rm3 Z a1 p1 hp1 p2 p3 p4 p5 hp5 p6 hp6 u_kind hu_kind u_displayId u_timestampNanos u_value u_substitute hu_substitute u_synthetic hu_synthetic h0 _ T6.heap _; rw [e6]; exact ⟨rfl, N, KP, F_kind, F_displayId, F_timestampNanos, F_value, F_substitute, F_synthetic⟩) (by decide) (by decide)
theorem d4_0 : decode prog_4_method_2_code 0 = .ok (.aload_n 0, 1) := by decide +kernel
theorem d4_1 : decode prog_4_method_2_code 1 = .ok (.getfield 13, 3) := by decide +kernel
theorem d4_4 : decode prog_4_method_2_code 4 = .ok (.areturn, 1) := by decide +kernel
set_option maxRecDepth 65536 in
set_option maxHeartbeats 40000000 in
theorem rm4 (l : Launch) (Z : State) (a0 : Array Value) {w_VSYNC : Addr} {w_HOTPLUG : Addr} {w_MODE : Addr} (CX : Ctx Z a0 w_VSYNC w_HOTPLUG w_MODE) (ws : List Jvm.Cond) (a1 : Addr) (r : Value) (hr : r.isRef = true) (h0 : Heap) (O : Ext Z.heap h0) (F1 : Fld Z h0 a1 "com/example/framebeat/framebeat/DisplayEvent" "kind" "Lcom/example/framebeat/framebeat/DisplayEvent$Kind;" r) :
    MetFree l (⟨"com/example/framebeat/framebeat/DisplayEvent", "kind", "()Lcom/example/framebeat/framebeat/DisplayEvent$Kind;"⟩ : MethodName) (head1 (Jvm.Cond.code (⟨"com/example/framebeat/framebeat/DisplayEvent", "kind", "()Lcom/example/framebeat/framebeat/DisplayEvent$Kind;"⟩ : MethodName) prog_4_method_2_code 1 (some (.object "com/example/framebeat/framebeat/DisplayEvent$Kind")) :: ws) ({ frames := 0, cells := 0, slots := 0, locals := 0 } : Room)) (fun a U => a = #[(.ref a1)] ∧ Z.Warmed39 U.vm ∧ U.heap = h0) (fun _ _ _ _ _ => True) (fun _ U o U' => ∃ v L, o = .returned v ∧ QP Z r h0 v U'.heap L ∧ FrameEnd U o U' L ({ frames := 0, cells := 0, slots := 0, locals := 0 } : Room).cells ({ frames := 0, cells := 0, slots := 0, locals := 0 } : Room).slots) := by
  refine MetFree.of_bodySF (plainFor_of_name pn_0) hisR ?_
  intro p e s m args below meth c s₁ Bd hml0 hP hK
  obtain ⟨rfl, hZ, hh⟩ := hP
  have CX0 := CX
  obtain ⟨hw, S_VSYNC, E_VSYNC, S_HOTPLUG, E_HOTPLUG, S_MODE, E_MODE, -⟩ := CX0
  have hx := Bd.exec
  have hby := Bd.bytes
  have hml : c.maxLocals = 1 := hml0
  have hown : s.vm.findClass "com/example/framebeat/framebeat/DisplayEvent" = some m.cls := findClass_of_methodNamed Bd.named
  have hnm := (name_of_methodNamed Bd.named Bd.method).1
  have hlk : meth.locks = false := BodyLoose.notSynchronized Bd
  have X0 : Stand p l e ({ frames := 0, cells := 0, slots := 0, locals := 0 } : Room) s m #[(.ref a1)] below meth c s₁ [] 0 0 := Stand.of_body Bd
  have e0 : s₁.heap = h0 := by rw [← hh, Bd.state]; rfl
  have N := Fr.nil Z.heap.size
  show own_Done p.tables e below (own_R (QP Z r h0) s 0 0) s₁ (entryFrame m #[(.ref a1)] 1)
  refine own_st (T' := s₁) (F' := (mkF m 0 #[.val (.ref a1)] [])) (fun t k => castTop (by first | (simp [entryFrame, mkF, argsToLocals, Value.category]; done) | rfl) k) ?_
  refine own_st (T' := s₁) (F' := (mkF m 1 #[.val (.ref a1)] [(.ref a1)])) (fun t k => XS.aloadN X0.here hx rfl (hb hby d4_0) rfl rfl k) ?_
  obtain ⟨T1, X1, e1, st1⟩ := getF X0 hx hZ hown (host := "") (Or.inl (hw _ (List.mem_of_getElem? (i := 14) rfl))) Via.refl e0 F1 (g := (mkF m 1 #[.val (.ref a1)] [(.ref a1)])) rfl rfl (hb hby d4_1)
  refine own_st (T' := T1) (F' := (mkF m 4 #[.val (.ref a1)] [r])) st1 ?_
  exact own_retA X1 hx (t := (.object "com/example/framebeat/framebeat/DisplayEvent$Kind")) Bd.returns rfl hr (hb hby d4_4) hlk (by show QP Z r h0 _ T1.heap _; rw [e1]; exact ⟨rfl, N, rfl⟩) (by decide) (by decide)
theorem d5_0 : decode prog_4_method_3_code 0 = .ok (.aload_n 0, 1) := by decide +kernel
theorem d5_1 : decode prog_4_method_3_code 1 = .ok (.getfield 18, 3) := by decide +kernel
theorem d5_4 : decode prog_4_method_3_code 4 = .ok (.lreturn, 1) := by decide +kernel
set_option maxRecDepth 65536 in
set_option maxHeartbeats 40000000 in
theorem rm5 (l : Launch) (Z : State) (a0 : Array Value) {w_VSYNC : Addr} {w_HOTPLUG : Addr} {w_MODE : Addr} (CX : Ctx Z a0 w_VSYNC w_HOTPLUG w_MODE) (ws : List Jvm.Cond) (a1 : Addr) (r : Int64) (h0 : Heap) (O : Ext Z.heap h0) (F1 : Fld Z h0 a1 "com/example/framebeat/framebeat/DisplayEvent" "displayId" "J" (.long r)) :
    MetFree l (⟨"com/example/framebeat/framebeat/DisplayEvent", "displayId", "()J"⟩ : MethodName) (head1 (Jvm.Cond.code (⟨"com/example/framebeat/framebeat/DisplayEvent", "displayId", "()J"⟩ : MethodName) prog_4_method_3_code 1 (some .long) :: ws) ({ frames := 0, cells := 0, slots := 0, locals := 0 } : Room)) (fun a U => a = #[(.ref a1)] ∧ Z.Warmed39 U.vm ∧ U.heap = h0) (fun _ _ _ _ _ => True) (fun _ U o U' => ∃ v L, o = .returned v ∧ QP Z (.long r) h0 v U'.heap L ∧ FrameEnd U o U' L ({ frames := 0, cells := 0, slots := 0, locals := 0 } : Room).cells ({ frames := 0, cells := 0, slots := 0, locals := 0 } : Room).slots) := by
  refine MetFree.of_bodySF (plainFor_of_name pn_0) hisR ?_
  intro p e s m args below meth c s₁ Bd hml0 hP hK
  obtain ⟨rfl, hZ, hh⟩ := hP
  have CX0 := CX
  obtain ⟨hw, S_VSYNC, E_VSYNC, S_HOTPLUG, E_HOTPLUG, S_MODE, E_MODE, -⟩ := CX0
  have hx := Bd.exec
  have hby := Bd.bytes
  have hml : c.maxLocals = 1 := hml0
  have hown : s.vm.findClass "com/example/framebeat/framebeat/DisplayEvent" = some m.cls := findClass_of_methodNamed Bd.named
  have hnm := (name_of_methodNamed Bd.named Bd.method).1
  have hlk : meth.locks = false := BodyLoose.notSynchronized Bd
  have X0 : Stand p l e ({ frames := 0, cells := 0, slots := 0, locals := 0 } : Room) s m #[(.ref a1)] below meth c s₁ [] 0 0 := Stand.of_body Bd
  have e0 : s₁.heap = h0 := by rw [← hh, Bd.state]; rfl
  have N := Fr.nil Z.heap.size
  show own_Done p.tables e below (own_R (QP Z (.long r) h0) s 0 0) s₁ (entryFrame m #[(.ref a1)] 1)
  refine own_st (T' := s₁) (F' := (mkF m 0 #[.val (.ref a1)] [])) (fun t k => castTop (by first | (simp [entryFrame, mkF, argsToLocals, Value.category]; done) | rfl) k) ?_
  refine own_st (T' := s₁) (F' := (mkF m 1 #[.val (.ref a1)] [(.ref a1)])) (fun t k => XS.aloadN X0.here hx rfl (hb hby d5_0) rfl rfl k) ?_
  obtain ⟨T1, X1, e1, st1⟩ := getF X0 hx hZ hown (host := "") (Or.inl (hw _ (List.mem_of_getElem? (i := 21) rfl))) Via.refl e0 F1 (g := (mkF m 1 #[.val (.ref a1)] [(.ref a1)])) rfl rfl (hb hby d5_1)
  refine own_st (T' := T1) (F' := (mkF m 4 #[.val (.ref a1)] [(.long r)])) st1 ?_
  exact own_retJ X1 hx Bd.returns (hb hby d5_4) hlk (by show QP Z (.long r) h0 _ T1.heap _; rw [e1]; exact ⟨rfl, N, rfl⟩) (by decide) (by decide)
theorem d6_0 : decode prog_4_method_4_code 0 = .ok (.aload_n 0, 1) := by decide +kernel
theorem d6_1 : decode prog_4_method_4_code 1 = .ok (.getfield 22, 3) := by decide +kernel
theorem d6_4 : decode prog_4_method_4_code 4 = .ok (.lreturn, 1) := by decide +kernel
set_option maxRecDepth 65536 in
set_option maxHeartbeats 40000000 in
theorem rm6 (l : Launch) (Z : State) (a0 : Array Value) {w_VSYNC : Addr} {w_HOTPLUG : Addr} {w_MODE : Addr} (CX : Ctx Z a0 w_VSYNC w_HOTPLUG w_MODE) (ws : List Jvm.Cond) (a1 : Addr) (r : Int64) (h0 : Heap) (O : Ext Z.heap h0) (F1 : Fld Z h0 a1 "com/example/framebeat/framebeat/DisplayEvent" "timestampNanos" "J" (.long r)) :
    MetFree l (⟨"com/example/framebeat/framebeat/DisplayEvent", "timestampNanos", "()J"⟩ : MethodName) (head1 (Jvm.Cond.code (⟨"com/example/framebeat/framebeat/DisplayEvent", "timestampNanos", "()J"⟩ : MethodName) prog_4_method_4_code 1 (some .long) :: ws) ({ frames := 0, cells := 0, slots := 0, locals := 0 } : Room)) (fun a U => a = #[(.ref a1)] ∧ Z.Warmed39 U.vm ∧ U.heap = h0) (fun _ _ _ _ _ => True) (fun _ U o U' => ∃ v L, o = .returned v ∧ QP Z (.long r) h0 v U'.heap L ∧ FrameEnd U o U' L ({ frames := 0, cells := 0, slots := 0, locals := 0 } : Room).cells ({ frames := 0, cells := 0, slots := 0, locals := 0 } : Room).slots) := by
  refine MetFree.of_bodySF (plainFor_of_name pn_0) hisR ?_
  intro p e s m args below meth c s₁ Bd hml0 hP hK
  obtain ⟨rfl, hZ, hh⟩ := hP
  have CX0 := CX
  obtain ⟨hw, S_VSYNC, E_VSYNC, S_HOTPLUG, E_HOTPLUG, S_MODE, E_MODE, -⟩ := CX0
  have hx := Bd.exec
  have hby := Bd.bytes
  have hml : c.maxLocals = 1 := hml0
  have hown : s.vm.findClass "com/example/framebeat/framebeat/DisplayEvent" = some m.cls := findClass_of_methodNamed Bd.named
  have hnm := (name_of_methodNamed Bd.named Bd.method).1
  have hlk : meth.locks = false := BodyLoose.notSynchronized Bd
  have X0 : Stand p l e ({ frames := 0, cells := 0, slots := 0, locals := 0 } : Room) s m #[(.ref a1)] below meth c s₁ [] 0 0 := Stand.of_body Bd
  have e0 : s₁.heap = h0 := by rw [← hh, Bd.state]; rfl
  have N := Fr.nil Z.heap.size
  show own_Done p.tables e below (own_R (QP Z (.long r) h0) s 0 0) s₁ (entryFrame m #[(.ref a1)] 1)
  refine own_st (T' := s₁) (F' := (mkF m 0 #[.val (.ref a1)] [])) (fun t k => castTop (by first | (simp [entryFrame, mkF, argsToLocals, Value.category]; done) | rfl) k) ?_
  refine own_st (T' := s₁) (F' := (mkF m 1 #[.val (.ref a1)] [(.ref a1)])) (fun t k => XS.aloadN X0.here hx rfl (hb hby d6_0) rfl rfl k) ?_
  obtain ⟨T1, X1, e1, st1⟩ := getF X0 hx hZ hown (host := "") (Or.inl (hw _ (List.mem_of_getElem? (i := 23) rfl))) Via.refl e0 F1 (g := (mkF m 1 #[.val (.ref a1)] [(.ref a1)])) rfl rfl (hb hby d6_1)
  refine own_st (T' := T1) (F' := (mkF m 4 #[.val (.ref a1)] [(.long r)])) st1 ?_
  exact own_retJ X1 hx Bd.returns (hb hby d6_4) hlk (by show QP Z (.long r) h0 _ T1.heap _; rw [e1]; exact ⟨rfl, N, rfl⟩) (by decide) (by decide)
theorem d7_0 : decode prog_4_method_8_code 0 = .ok (.aload_n 0, 1) := by decide +kernel
theorem d7_1 : decode prog_4_method_8_code 1 = .ok (.getfield 41, 3) := by decide +kernel
theorem d7_4 : decode prog_4_method_8_code 4 = .ok (.ireturn, 1) := by decide +kernel
set_option maxRecDepth 65536 in
set_option maxHeartbeats 40000000 in
theorem rm7 (l : Launch) (Z : State) (a0 : Array Value) {w_VSYNC : Addr} {w_HOTPLUG : Addr} {w_MODE : Addr} (CX : Ctx Z a0 w_VSYNC w_HOTPLUG w_MODE) (ws : List Jvm.Cond) (a1 : Addr) (r : Int32) (hr : narrow .boolean (.int r) = .int r) (h0 : Heap) (O : Ext Z.heap h0) (F1 : Fld Z h0 a1 "com/example/framebeat/framebeat/DisplayEvent" "substitute" "Z" (.int r)) :
    MetFree l (⟨"com/example/framebeat/framebeat/DisplayEvent", "isSubstitute", "()Z"⟩ : MethodName) (head1 (Jvm.Cond.code (⟨"com/example/framebeat/framebeat/DisplayEvent", "isSubstitute", "()Z"⟩ : MethodName) prog_4_method_8_code 1 (some .boolean) :: ws) ({ frames := 0, cells := 0, slots := 0, locals := 0 } : Room)) (fun a U => a = #[(.ref a1)] ∧ Z.Warmed39 U.vm ∧ U.heap = h0) (fun _ _ _ _ _ => True) (fun _ U o U' => ∃ v L, o = .returned v ∧ QP Z (.int r) h0 v U'.heap L ∧ FrameEnd U o U' L ({ frames := 0, cells := 0, slots := 0, locals := 0 } : Room).cells ({ frames := 0, cells := 0, slots := 0, locals := 0 } : Room).slots) := by
  refine MetFree.of_bodySF (plainFor_of_name pn_0) hisR ?_
  intro p e s m args below meth c s₁ Bd hml0 hP hK
  obtain ⟨rfl, hZ, hh⟩ := hP
  have CX0 := CX
  obtain ⟨hw, S_VSYNC, E_VSYNC, S_HOTPLUG, E_HOTPLUG, S_MODE, E_MODE, -⟩ := CX0
  have hx := Bd.exec
  have hby := Bd.bytes
  have hml : c.maxLocals = 1 := hml0
  have hown : s.vm.findClass "com/example/framebeat/framebeat/DisplayEvent" = some m.cls := findClass_of_methodNamed Bd.named
  have hnm := (name_of_methodNamed Bd.named Bd.method).1
  have hlk : meth.locks = false := BodyLoose.notSynchronized Bd
  have X0 : Stand p l e ({ frames := 0, cells := 0, slots := 0, locals := 0 } : Room) s m #[(.ref a1)] below meth c s₁ [] 0 0 := Stand.of_body Bd
  have e0 : s₁.heap = h0 := by rw [← hh, Bd.state]; rfl
  have N := Fr.nil Z.heap.size
  show own_Done p.tables e below (own_R (QP Z (.int r) h0) s 0 0) s₁ (entryFrame m #[(.ref a1)] 1)
  refine own_st (T' := s₁) (F' := (mkF m 0 #[.val (.ref a1)] [])) (fun t k => castTop (by first | (simp [entryFrame, mkF, argsToLocals, Value.category]; done) | rfl) k) ?_
  refine own_st (T' := s₁) (F' := (mkF m 1 #[.val (.ref a1)] [(.ref a1)])) (fun t k => XS.aloadN X0.here hx rfl (hb hby d7_0) rfl rfl k) ?_
  obtain ⟨T1, X1, e1, st1⟩ := getF X0 hx hZ hown (host := "") (Or.inl (hw _ (List.mem_of_getElem? (i := 27) rfl))) Via.refl e0 F1 (g := (mkF m 1 #[.val (.ref a1)] [(.ref a1)])) rfl rfl (hb hby d7_1)
  refine own_st (T' := T1) (F' := (mkF m 4 #[.val (.ref a1)] [(.int r)])) st1 ?_
  exact own_retN X1 hx (t := .boolean) Bd.returns (by simp) hr (hb hby d7_4) hlk (by show QP Z (.int r) h0 _ T1.heap _; rw [e1]; exact ⟨rfl, N, rfl⟩) (by decide) (by decide)
theorem d8_0 : decode prog_4_method_9_code 0 = .ok (.aload_n 0, 1) := by decide +kernel
theorem d8_1 : decode prog_4_method_9_code 1 = .ok (.getfield 45, 3) := by decide +kernel
theorem d8_4 : decode prog_4_method_9_code 4 = .ok (.ireturn, 1) := by decide +kernel
set_option maxRecDepth 65536 in
set_option maxHeartbeats 40000000 in
theorem rm8 (l : Launch) (Z : State) (a0 : Array Value) {w_VSYNC : Addr} {w_HOTPLUG : Addr} {w_MODE : Addr} (CX : Ctx Z a0 w_VSYNC w_HOTPLUG w_MODE) (ws : List Jvm.Cond) (a1 : Addr) (r : Int32) (hr : narrow .boolean (.int r) = .int r) (h0 : Heap) (O : Ext Z.heap h0) (F1 : Fld Z h0 a1 "com/example/framebeat/framebeat/DisplayEvent" "synthetic" "Z" (.int r)) :
    MetFree l (⟨"com/example/framebeat/framebeat/DisplayEvent", "isSynthetic", "()Z"⟩ : MethodName) (head1 (Jvm.Cond.code (⟨"com/example/framebeat/framebeat/DisplayEvent", "isSynthetic", "()Z"⟩ : MethodName) prog_4_method_9_code 1 (some .boolean) :: ws) ({ frames := 0, cells := 0, slots := 0, locals := 0 } : Room)) (fun a U => a = #[(.ref a1)] ∧ Z.Warmed39 U.vm ∧ U.heap = h0) (fun _ _ _ _ _ => True) (fun _ U o U' => ∃ v L, o = .returned v ∧ QP Z (.int r) h0 v U'.heap L ∧ FrameEnd U o U' L ({ frames := 0, cells := 0, slots := 0, locals := 0 } : Room).cells ({ frames := 0, cells := 0, slots := 0, locals := 0 } : Room).slots) := by
  refine MetFree.of_bodySF (plainFor_of_name pn_0) hisR ?_
  intro p e s m args below meth c s₁ Bd hml0 hP hK
  obtain ⟨rfl, hZ, hh⟩ := hP
  have CX0 := CX
  obtain ⟨hw, S_VSYNC, E_VSYNC, S_HOTPLUG, E_HOTPLUG, S_MODE, E_MODE, -⟩ := CX0
  have hx := Bd.exec
  have hby := Bd.bytes
  have hml : c.maxLocals = 1 := hml0
  have hown : s.vm.findClass "com/example/framebeat/framebeat/DisplayEvent" = some m.cls := findClass_of_methodNamed Bd.named
  have hnm := (name_of_methodNamed Bd.named Bd.method).1
  have hlk : meth.locks = false := BodyLoose.notSynchronized Bd
  have X0 : Stand p l e ({ frames := 0, cells := 0, slots := 0, locals := 0 } : Room) s m #[(.ref a1)] below meth c s₁ [] 0 0 := Stand.of_body Bd
  have e0 : s₁.heap = h0 := by rw [← hh, Bd.state]; rfl
  have N := Fr.nil Z.heap.size
  show own_Done p.tables e below (own_R (QP Z (.int r) h0) s 0 0) s₁ (entryFrame m #[(.ref a1)] 1)
  refine own_st (T' := s₁) (F' := (mkF m 0 #[.val (.ref a1)] [])) (fun t k => castTop (by first | (simp [entryFrame, mkF, argsToLocals, Value.category]; done) | rfl) k) ?_
  refine own_st (T' := s₁) (F' := (mkF m 1 #[.val (.ref a1)] [(.ref a1)])) (fun t k => XS.aloadN X0.here hx rfl (hb hby d8_0) rfl rfl k) ?_
  obtain ⟨T1, X1, e1, st1⟩ := getF X0 hx hZ hown (host := "") (Or.inl (hw _ (List.mem_of_getElem? (i := 29) rfl))) Via.refl e0 F1 (g := (mkF m 1 #[.val (.ref a1)] [(.ref a1)])) rfl rfl (hb hby d8_1)
  refine own_st (T' := T1) (F' := (mkF m 4 #[.val (.ref a1)] [(.int r)])) st1 ?_
  exact own_retN X1 hx (t := .boolean) Bd.returns (by simp) hr (hb hby d8_4) hlk (by show QP Z (.int r) h0 _ T1.heap _; rw [e1]; exact ⟨rfl, N, rfl⟩) (by decide) (by decide)
theorem d10_0 : decode prog_4_method_13_code 0 = .ok (.aload_n 0, 1) := by decide +kernel
theorem d10_1 : decode prog_4_method_13_code 1 = .ok (.getfield 13, 3) := by decide +kernel
theorem d10_4 : decode prog_4_method_13_code 4 = .ok (.aload_n 1, 1) := by decide +kernel
theorem d10_5 : decode prog_4_method_13_code 5 = .ok (.if_acmp .eq 24, 3) := by decide +kernel
theorem d10_8 : decode prog_4_method_13_code 8 = .ok (.new 87, 3) := by decide +kernel
theorem d10_11 : decode prog_4_method_13_code 11 = .ok (.dup, 1) := by decide +kernel
theorem d10_12 : decode prog_4_method_13_code 12 = .ok (.aload_n 0, 1) := by decide +kernel
theorem d10_13 : decode prog_4_method_13_code 13 = .ok (.getfield 13, 3) := by decide +kernel
theorem d10_16 : decode prog_4_method_13_code 16 = .ok (.invokestatic 48, 3) := by decide +kernel
theorem d10_19 : decode prog_4_method_13_code 19 = .ok (.aload_n 2, 1) := by decide +kernel
theorem d10_25 : decode prog_4_method_13_code 25 = .ok (.invokespecial 90, 3) := by decide +kernel
theorem d10_28 : decode prog_4_method_13_code 28 = .ok (.athrow, 1) := by decide +kernel
theorem d10_29 : decode prog_4_method_13_code 29 = .ok (.aload_n 0, 1) := by decide +kernel
theorem d10_30 : decode prog_4_method_13_code 30 = .ok (.getfield 61, 3) := by decide +kernel
theorem d10_33 : decode prog_4_method_13_code 33 = .ok (.lreturn, 1) := by decide +kernel
theorem cast_rm10 (m : MethodId) (a1 : Addr) (k1 : Addr) (sv : Value) (hsv : sv.isRef = true) : entryFrame m #[(.ref a1), (.ref k1), sv] 3 = (mkF m 0 #[.val (.ref a1), .val (.ref k1), .val sv] []) := by
  simp [entryFrame, mkF, argsToLocals, own_cI, own_cJ, own_cR, own_cN, own_cat1 hsv]
set_option maxRecDepth 65536 in
set_option maxHeartbeats 40000000 in
theorem rm10 (l : Launch) (Z : State) (a0 : Array Value) {w_VSYNC : Addr} {w_HOTPLUG : Addr} {w_MODE : Addr} (CX : Ctx Z a0 w_VSYNC w_HOTPLUG w_MODE) (ws : List Jvm.Cond) (a1 k1 : Addr) (sv : Value) (hsv : sv.isRef = true) (q : Int64) (h0 : Heap) (O : Ext Z.heap h0) (E_a1 : Exa Z h0 a1 "com/example/framebeat/framebeat/DisplayEvent") (FK : Fld Z h0 a1 "com/example/framebeat/framebeat/DisplayEvent" "kind" "Lcom/example/framebeat/framebeat/DisplayEvent$Kind;" (.ref k1)) (FV : Fld Z h0 a1 "com/example/framebeat/framebeat/DisplayEvent" "value" "J" (.long q)) :
    MetFree l (⟨"com/example/framebeat/framebeat/DisplayEvent", "valueOf", "(Lcom/example/framebeat/framebeat/DisplayEvent$Kind;Ljava/lang/String;)J"⟩ : MethodName) (head1 (Jvm.Cond.code (⟨"com/example/framebeat/framebeat/DisplayEvent", "valueOf", "(Lcom/example/framebeat/framebeat/DisplayEvent$Kind;Ljava/lang/String;)J"⟩ : MethodName) prog_4_method_13_code 3 (some .long) :: ws) ({ frames := 0, cells := 0, slots := 0, locals := 0 } : Room)) (fun a U => a = #[(.ref a1), (.ref k1), sv] ∧ Z.Warmed39 U.vm ∧ U.heap = h0) (fun _ _ _ _ _ => True) (fun _ U o U' => ∃ v L, o = .returned v ∧ QP Z (.long q) h0 v U'.heap L ∧ FrameEnd U o U' L ({ frames := 0, cells := 0, slots := 0, locals := 0 } : Room).cells ({ frames := 0, cells := 0, slots := 0, locals := 0 } : Room).slots) := by
  refine MetFree.of_bodySF (plainFor_of_name pn_0) hisR ?_
  intro p e s m args below meth c s₁ Bd hml0 hP hK
  obtain ⟨rfl, hZ, hh⟩ := hP
  have CX0 := CX
  obtain ⟨hw, S_VSYNC, E_VSYNC, S_HOTPLUG, E_HOTPLUG, S_MODE, E_MODE, -⟩ := CX0
  have hx := Bd.exec
  have hby := Bd.bytes
  have hml : c.maxLocals = 3 := hml0
  have hown : s.vm.findClass "com/example/framebeat/framebeat/DisplayEvent" = some m.cls := findClass_of_methodNamed Bd.named
  have hnm := (name_of_methodNamed Bd.named Bd.method).1
  have hlk : meth.locks = false := BodyLoose.notSynchronized Bd
  have X0 : Stand p l e ({ frames := 0, cells := 0, slots := 0, locals := 0 } : Room) s m #[(.ref a1), (.ref k1), sv] below meth c s₁ [] 0 0 := Stand.of_body Bd
  have e0 : s₁.heap = h0 := by rw [← hh, Bd.state]; rfl
  have N := Fr.nil Z.heap.size
  show own_Done p.tables e below (own_R (QP Z (.long q) h0) s 0 0) s₁ (entryFrame m #[(.ref a1), (.ref k1), sv] 3)
  refine own_st (T' := s₁) (F' := (mkF m 0 #[.val (.ref a1), .val (.ref k1), .val sv] [])) (fun t k => castTop (cast_rm10 m a1 k1 sv hsv) k) ?_
  refine own_st (T' := s₁) (F' := (mkF m 1 #[.val (.ref a1), .val (.ref k1), .val sv] [(.ref a1)])) (fun t k => XS.aloadN X0.here hx rfl (hb hby d10_0) rfl rfl k) ?_
  obtain ⟨T1, X1, e1, st1⟩ := getF X0 hx hZ hown (host := "") (Or.inl (hw _ (List.mem_of_getElem? (i := 14) rfl))) Via.refl e0 FK (g := (mkF m 1 #[.val (.ref a1), .val (.ref k1), .val sv] [(.ref a1)])) rfl rfl (hb hby d10_1)
  refine own_st (T' := T1) (F' := (mkF m 4 #[.val (.ref a1), .val (.ref k1), .val sv] [(.ref k1)])) st1 ?_
  refine own_st (T' := T1) (F' := (mkF m 5 #[.val (.ref a1), .val (.ref k1), .val sv] [(.ref k1), (.ref k1)])) (fun t k => XS.aloadN X1.here hx rfl (hb hby d10_4) rfl rfl k) ?_
  refine own_st (T' := T1) (F' := (mkF m 29 #[.val (.ref a1), .val (.ref k1), .val sv] [])) (fun t k => Jvm.RoadKit.acmp (g := (mkF m 5 #[.val (.ref a1), .val (.ref k1), .val sv] [(.ref k1), (.ref k1)])) X1 hx rfl rfl rfl (pc0 := 5) (pc' := 29) (same := true) rfl (hb hby d10_5) rfl (decide_eq_true rfl) (by decide) (by decide) k) ?_
  refine own_st (T' := T1) (F' := (mkF m 30 #[.val (.ref a1), .val (.ref k1), .val sv] [(.ref a1)])) (fun t k => XS.aloadN X1.here hx rfl (hb hby d10_29) rfl rfl k) ?_
  obtain ⟨T2, X2, e2, st2⟩ := getF X1 hx hZ hown (host := "") (Or.inl (hw _ (List.mem_of_getElem? (i := 25) rfl))) Via.refl e1 FV (g := (mkF m 30 #[.val (.ref a1), .val (.ref k1), .val sv] [(.ref a1)])) rfl rfl (hb hby d10_30)
  refine own_st (T' := T2) (F' := (mkF m 33 #[.val (.ref a1), .val (.ref k1), .val sv] [(.long q)])) st2 ?_
  exact own_retJ X2 hx Bd.returns (hb hby d10_33) hlk (by show QP Z (.long q) h0 _ T2.heap _; rw [e2]; exact ⟨rfl, N, rfl⟩) (by decide) (by decide)
theorem d9_0 : decode prog_4_method_5_code 0 = .ok (.aload_n 0, 1) := by decide +kernel
theorem d9_1 : decode prog_4_method_5_code 1 = .ok (.getstatic 7, 3) := by decide +kernel
theorem d9_4 : decode prog_4_method_5_code 4 = .ok (.ldc 25, 2) := by decide +kernel
theorem d9_6 : decode prog_4_method_5_code 6 = .ok (.invokevirtual 27, 3) := by decide +kernel
theorem d9_9 : decode prog_4_method_5_code 9 = .ok (.lreturn, 1) := by decide +kernel
theorem pd_0 : parseMethodDescriptor "(Lcom/example/framebeat/framebeat/DisplayEvent$Kind;Ljava/lang/String;)J" = some ⟨[(.object "com/example/framebeat/framebeat/DisplayEvent$Kind"), (.object "java/lang/String")], some .long⟩ := by decide +kernel
set_option maxRecDepth 65536 in
set_option maxHeartbeats 40000000 in
theorem rm9 (l : Launch) (Z : State) (a0 : Array Value) {w_VSYNC : Addr} {w_HOTPLUG : Addr} {w_MODE : Addr} (CX : Ctx Z a0 w_VSYNC w_HOTPLUG w_MODE) (ws : List Jvm.Cond) (a1 : Addr) (q : Int64) (h0 : Heap) (O : Ext Z.heap h0) (E_a1 : Exa Z h0 a1 "com/example/framebeat/framebeat/DisplayEvent") (FK : Fld Z h0 a1 "com/example/framebeat/framebeat/DisplayEvent" "kind" "Lcom/example/framebeat/framebeat/DisplayEvent$Kind;" (.ref w_VSYNC)) (FV : Fld Z h0 a1 "com/example/framebeat/framebeat/DisplayEvent" "value" "J" (.long q)) :
    MetFree l (⟨"com/example/framebeat/framebeat/DisplayEvent", "count", "()J"⟩ : MethodName) (head1 (Jvm.Cond.code (⟨"com/example/framebeat/framebeat/DisplayEvent", "count", "()J"⟩ : MethodName) prog_4_method_5_code 1 (some .long) :: ws) ({ frames := 1, cells := 2, slots := 24, locals := 14 } : Room)) (fun a U => a = #[(.ref a1)] ∧ Z.Warmed39 U.vm ∧ U.heap = h0) (fun _ _ _ _ _ => True) (fun _ U o U' => ∃ v L, o = .returned v ∧ QE Z (.long q) h0 v U'.heap L ∧ ReturnedEndW U o U' L ({ frames := 1, cells := 2, slots := 24, locals := 14 } : Room).cells ({ frames := 1, cells := 2, slots := 24, locals := 14 } : Room).slots) := by
  refine MetFree.of_bodySF (plainFor_of_name pn_0) hisR ?_
  intro p e s m args below meth c s₁ Bd hml0 hP hK
  obtain ⟨rfl, hZ, hh⟩ := hP
  have CX0 := CX
  obtain ⟨hw, S_VSYNC, E_VSYNC, S_HOTPLUG, E_HOTPLUG, S_MODE, E_MODE, -⟩ := CX0
  have hx := Bd.exec
  have hby := Bd.bytes
  have hml : c.maxLocals = 1 := hml0
  have hown : s.vm.findClass "com/example/framebeat/framebeat/DisplayEvent" = some m.cls := findClass_of_methodNamed Bd.named
  have hnm := (name_of_methodNamed Bd.named Bd.method).1
  have hlk : meth.locks = false := BodyLoose.notSynchronized Bd
  have X0 : Stand p l e ({ frames := 1, cells := 2, slots := 24, locals := 14 } : Room) (s.setVm s.vm) m #[(.ref a1)] below meth c s₁ [] 0 0 := Stand.of_body Bd
  have e0 : s₁.heap = h0 := by rw [← hh, Bd.state]; rfl
  have N := Fr.nil Z.heap.size
  have wS : ∀ a ∈ Bundle.stringAtoms, a.before a0 Z = true := by
    intro a ha
    simp only [Bundle.stringAtoms, List.mem_cons, List.not_mem_nil, or_false] at ha
    rcases ha with rfl | rfl | rfl | rfl | rfl | rfl | rfl
    · exact (hw _ (List.mem_of_getElem? (i := 62) rfl))
    · exact (hw _ (List.mem_of_getElem? (i := 63) rfl))
    · exact (hw _ (List.mem_of_getElem? (i := 64) rfl))
    · exact (hw _ (List.mem_of_getElem? (i := 65) rfl))
    · exact (hw _ (List.mem_of_getElem? (i := 66) rfl))
    · exact (hw _ (List.mem_of_getElem? (i := 67) rfl))
    · exact (hw _ (List.mem_of_getElem? (i := 68) rfl))
  have hS : s.Since s.vm 0 := State.WarmedH.since (State.WarmedH.refl s) 0
  have hk : 0 ≤ h0.size := Nat.zero_le _
  show own_Done p.tables e below (own_RW (QE Z (.long q) h0) s 2 24) s₁ (entryFrame m #[(.ref a1)] 1)
  refine own_st (T' := s₁) (F' := (mkF m 0 #[.val (.ref a1)] [])) (fun t k => castTop (by first | (simp [entryFrame, mkF, argsToLocals, Value.category]; done) | rfl) k) ?_
  refine own_st (T' := s₁) (F' := (mkF m 1 #[.val (.ref a1)] [(.ref a1)])) (fun t k => XS.aloadN X0.here hx rfl (hb hby d9_0) rfl rfl k) ?_
  obtain ⟨T1, X1, e1, st1⟩ := getS2 X0 hx hZ hown (host := "") (Or.inl (hw _ (List.mem_of_getElem? (i := 13) rfl))) Via.refl e0 (S_VSYNC.ext O) (g := (mkF m 1 #[.val (.ref a1)] [(.ref a1)])) rfl (hb hby d9_1)
  refine own_st (T' := T1) (F' := (mkF m 4 #[.val (.ref a1)] [(.ref w_VSYNC), (.ref a1)])) st1 ?_
  obtain ⟨a2, T2, h2, ks2, X2, e2, E2, hS, hk2, hZ, hown, st2⟩ := ldcS X1 hx hZ hown (hw _ (List.mem_of_getElem? (i := 61) rfl)) wS e1 hS hk (g := (mkF m 4 #[.val (.ref a1)] [(.ref w_VSYNC), (.ref a1)])) rfl (hb hby d9_4) (n := 20) (by first | decide | simp | rfl) (by first | decide | simp | rfl) (by decide) (by decide)
  have E_a1 := E_a1.ext E2
  have FK := FK.ext E2
  have FV := FV.ext E2
  have O := own_ext_trans O E2
  have hk := Nat.le_trans hk E2.1
  have EX := E2
  have hk := hk2
  refine own_st (T' := T2) (F' := (mkF m 6 #[.val (.ref a1)] [(.ref a2), (.ref w_VSYNC), (.ref a1)])) st2 ?_
  obtain ⟨cq3, q3, q3'⟩ := E_a1.cell
  obtain ⟨v3, _, ⟨T3, L3, k3, n3⟩, -, X3, ⟨Lc3, hQ3, l3, y3, z3⟩, st3⟩ := X2.privateBack hx (y := (⟨"com/example/framebeat/framebeat/DisplayEvent", "valueOf", "(Lcom/example/framebeat/framebeat/DisplayEvent$Kind;Ljava/lang/String;)J"⟩ : MethodName)) hown (mvT hZ (hw _ (List.mem_of_getElem? (i := 69) rfl))) (mvT hZ (hw _ (List.mem_of_getElem? (i := 70) rfl))) (own_selects_private (args := #[(.ref a1)]) (mvT hZ (hw _ (List.mem_of_getElem? (i := 70) rfl))) (mvP hZ (hw _ (List.mem_of_getElem? (i := 71) rfl))) (mvT hZ (hw _ (List.mem_of_getElem? (i := 5) rfl))) (by decide)) (Cond.privateMethod_at (mvP hZ (hw _ (List.mem_of_getElem? (i := 71) rfl)) (args := #[]))) (mvT hZ (hw _ (List.mem_of_getElem? (i := 72) rfl))) (by decide) (backOf (W := 0) (rm10 l Z a0 CX [] a1 w_VSYNC (.ref a2) rfl q h2 O E_a1 FK FV) hZ (hw _ (List.mem_of_getElem? (i := 72) rfl)) (hw _ (List.mem_of_getElem? (i := 6) rfl)) (by decide) (by decide)) (g := (mkF m 6 #[.val (.ref a1)] [(.ref a2), (.ref w_VSYNC), (.ref a1)])) rfl (by rw [hml]; rfl) (Steps.refl _) (a := a1) (by rw [e2]; exact q3) q3' (argsL := [(.ref w_VSYNC), (.ref a2)]) (rest := []) (lenOf pd_0 rfl) rfl (by show 2 * 0 + _ ≤ _; exact Nat.le_of_eq rfl) (hb hby d9_6) (fun _ _ => ⟨rfl, e2, (by decide : 2 + 0 ≤ _), (by decide : 24 + 0 ≤ _)⟩)
  dsimp only [Pt.U, Pt.locs, Pt.cells, Pt.slots] at X3 l3 y3 z3 st3 hQ3
  subst l3 y3 z3
  obtain ⟨rfl, N3q, e3⟩ := hQ3
  have N := Fr.app N N3q
  refine own_tr (T' := T3) (F' := (mkF m 9 #[.val (.ref a1)] [(.long q)])) st3 ?_
  exact own_retJW X3 hx Bd.returns hS (by rw [e3]; exact hk) (hb hby d9_9) hlk (by show QE Z (.long q) h0 _ T3.heap _; rw [e3]; exact ⟨rfl, N, EX⟩) (by decide) (by decide)
theorem d12_0 : decode prog_4_method_7_code 0 = .ok (.aload_n 0, 1) := by decide +kernel
theorem d12_1 : decode prog_4_method_7_code 1 = .ok (.getstatic 36, 3) := by decide +kernel
theorem d12_4 : decode prog_4_method_7_code 4 = .ok (.ldc 39, 2) := by decide +kernel
theorem d12_6 : decode prog_4_method_7_code 6 = .ok (.invokevirtual 27, 3) := by decide +kernel
theorem d12_9 : decode prog_4_method_7_code 9 = .ok (.lreturn, 1) := by decide +kernel
set_option maxRecDepth 65536 in
set_option maxHeartbeats 40000000 in
theorem rm12 (l : Launch) (Z : State) (a0 : Array Value) {w_VSYNC : Addr} {w_HOTPLUG : Addr} {w_MODE : Addr} (CX : Ctx Z a0 w_VSYNC w_HOTPLUG w_MODE) (ws : List Jvm.Cond) (a1 : Addr) (q : Int64) (h0 : Heap) (O : Ext Z.heap h0) (E_a1 : Exa Z h0 a1 "com/example/framebeat/framebeat/DisplayEvent") (FK : Fld Z h0 a1 "com/example/framebeat/framebeat/DisplayEvent" "kind" "Lcom/example/framebeat/framebeat/DisplayEvent$Kind;" (.ref w_MODE)) (FV : Fld Z h0 a1 "com/example/framebeat/framebeat/DisplayEvent" "value" "J" (.long q)) :
    MetFree l (⟨"com/example/framebeat/framebeat/DisplayEvent", "periodNanos", "()J"⟩ : MethodName) (head1 (Jvm.Cond.code (⟨"com/example/framebeat/framebeat/DisplayEvent", "periodNanos", "()J"⟩ : MethodName) prog_4_method_7_code 1 (some .long) :: ws) ({ frames := 1, cells := 2, slots := 28, locals := 14 } : Room)) (fun a U => a = #[(.ref a1)] ∧ Z.Warmed39 U.vm ∧ U.heap = h0) (fun _ _ _ _ _ => True) (fun _ U o U' => ∃ v L, o = .returned v ∧ QE Z (.long q) h0 v U'.heap L ∧ ReturnedEndW U o U' L ({ frames := 1, cells := 2, slots := 28, locals := 14 } : Room).cells ({ frames := 1, cells := 2, slots := 28, locals := 14 } : Room).slots) := by
  refine MetFree.of_bodySF (plainFor_of_name pn_0) hisR ?_
  intro p e s m args below meth c s₁ Bd hml0 hP hK
  obtain ⟨rfl, hZ, hh⟩ := hP
  have CX0 := CX
  obtain ⟨hw, S_VSYNC, E_VSYNC, S_HOTPLUG, E_HOTPLUG, S_MODE, E_MODE, -⟩ := CX0
  have hx := Bd.exec
  have hby := Bd.bytes
  have hml : c.maxLocals = 1 := hml0
  have hown : s.vm.findClass "com/example/framebeat/framebeat/DisplayEvent" = some m.cls := findClass_of_methodNamed Bd.named
  have hnm := (name_of_methodNamed Bd.named Bd.method).1
  have hlk : meth.locks = false := BodyLoose.notSynchronized Bd
  have X0 : Stand p l e ({ frames := 1, cells := 2, slots := 28, locals := 14 } : Room) (s.setVm s.vm) m #[(.ref a1)] below meth c s₁ [] 0 0 := Stand.of_body Bd
  have e0 : s₁.heap = h0 := by rw [← hh, Bd.state]; rfl
  have N := Fr.nil Z.heap.size
  have wS : ∀ a ∈ Bundle.stringAtoms, a.before a0 Z = true := by
    intro a ha
    simp only [Bundle.stringAtoms, List.mem_cons, List.not_mem_nil, or_false] at ha
    rcases ha with rfl | rfl | rfl | rfl | rfl | rfl | rfl
    · exact (hw _ (List.mem_of_getElem? (i := 62) rfl))
    · exact (hw _ (List.mem_of_getElem? (i := 63) rfl))
    · exact (hw _ (List.mem_of_getElem? (i := 64) rfl))
    · exact (hw _ (List.mem_of_getElem? (i := 65) rfl))
    · exact (hw _ (List.mem_of_getElem? (i := 66) rfl))
    · exact (hw _ (List.mem_of_getElem? (i := 67) rfl))
    · exact (hw _ (List.mem_of_getElem? (i := 68) rfl))
  have hS : s.Since s.vm 0 := State.WarmedH.since (State.WarmedH.refl s) 0
  have hk : 0 ≤ h0.size := Nat.zero_le _
  show own_Done p.tables e below (own_RW (QE Z (.long q) h0) s 2 28) s₁ (entryFrame m #[(.ref a1)] 1)
  refine own_st (T' := s₁) (F' := (mkF m 0 #[.val (.ref a1)] [])) (fun t k => castTop (by first | (simp [entryFrame, mkF, argsToLocals, Value.category]; done) | rfl) k) ?_
  refine own_st (T' := s₁) (F' := (mkF m 1 #[.val (.ref a1)] [(.ref a1)])) (fun t k => XS.aloadN X0.here hx rfl (hb hby d12_0) rfl rfl k) ?_
  obtain ⟨T1, X1, e1, st1⟩ := getS2 X0 hx hZ hown (host := "") (Or.inl (hw _ (List.mem_of_getElem? (i := 89) rfl))) Via.refl e0 (S_MODE.ext O) (g := (mkF m 1 #[.val (.ref a1)] [(.ref a1)])) rfl (hb hby d12_1)
  refine own_st (T' := T1) (F' := (mkF m 4 #[.val (.ref a1)] [(.ref w_MODE), (.ref a1)])) st1 ?_
  obtain ⟨a2, T2, h2, ks2, X2, e2, E2, hS, hk2, hZ, hown, st2⟩ := ldcS X1 hx hZ hown (hw _ (List.mem_of_getElem? (i := 90) rfl)) wS e1 hS hk (g := (mkF m 4 #[.val (.ref a1)] [(.ref w_MODE), (.ref a1)])) rfl (hb hby d12_4) (n := 24) (by first | decide | simp | rfl) (by first | decide | simp | rfl) (by decide) (by decide)
  have E_a1 := E_a1.ext E2
  have FK := FK.ext E2
  have FV := FV.ext E2
  have O := own_ext_trans O E2
  have hk := Nat.le_trans hk E2.1
  have EX := E2
  have hk := hk2
  refine own_st (T' := T2) (F' := (mkF m 6 #[.val (.ref a1)] [(.ref a2), (.ref w_MODE), (.ref a1)])) st2 ?_
  obtain ⟨cq3, q3, q3'⟩ := E_a1.cell
  obtain ⟨v3, _, ⟨T3, L3, k3, n3⟩, -, X3, ⟨Lc3, hQ3, l3, y3, z3⟩, st3⟩ := X2.privateBack hx (y := (⟨"com/example/framebeat/framebeat/DisplayEvent", "valueOf", "(Lcom/example/framebeat/framebeat/DisplayEvent$Kind;Ljava/lang/String;)J"⟩ : MethodName)) hown (mvT hZ (hw _ (List.mem_of_getElem? (i := 69) rfl))) (mvT hZ (hw _ (List.mem_of_getElem? (i := 70) rfl))) (own_selects_private (args := #[(.ref a1)]) (mvT hZ (hw _ (List.mem_of_getElem? (i := 70) rfl))) (mvP hZ (hw _ (List.mem_of_getElem? (i := 71) rfl))) (mvT hZ (hw _ (List.mem_of_getElem? (i := 5) rfl))) (by decide)) (Cond.privateMethod_at (mvP hZ (hw _ (List.mem_of_getElem? (i := 71) rfl)) (args := #[]))) (mvT hZ (hw _ (List.mem_of_getElem? (i := 72) rfl))) (by decide) (backOf (W := 0) (rm10 l Z a0 CX [] a1 w_MODE (.ref a2) rfl q h2 O E_a1 FK FV) hZ (hw _ (List.mem_of_getElem? (i := 72) rfl)) (hw _ (List.mem_of_getElem? (i := 6) rfl)) (by decide) (by decide)) (g := (mkF m 6 #[.val (.ref a1)] [(.ref a2), (.ref w_MODE), (.ref a1)])) rfl (by rw [hml]; rfl) (Steps.refl _) (a := a1) (by rw [e2]; exact q3) q3' (argsL := [(.ref w_MODE), (.ref a2)]) (rest := []) (lenOf pd_0 rfl) rfl (by show 2 * 0 + _ ≤ _; exact Nat.le_of_eq rfl) (hb hby d12_6) (fun _ _ => ⟨rfl, e2, (by decide : 2 + 0 ≤ _), (by decide : 28 + 0 ≤ _)⟩)
  dsimp only [Pt.U, Pt.locs, Pt.cells, Pt.slots] at X3 l3 y3 z3 st3 hQ3
  subst l3 y3 z3
  obtain ⟨rfl, N3q, e3⟩ := hQ3
  have N := Fr.app N N3q
  refine own_tr (T' := T3) (F' := (mkF m 9 #[.val (.ref a1)] [(.long q)])) st3 ?_
  exact own_retJW X3 hx Bd.returns hS (by rw [e3]; exact hk) (hb hby d12_9) hlk (by show QE Z (.long q) h0 _ T3.heap _; rw [e3]; exact ⟨rfl, N, EX⟩) (by decide) (by decide)
theorem d11_0 : decode prog_4_method_6_code 0 = .ok (.aload_n 0, 1) := by decide +kernel
theorem d11_1 : decode prog_4_method_6_code 1 = .ok (.getstatic 31, 3) := by decide +kernel
theorem d11_4 : decode prog_4_method_6_code 4 = .ok (.ldc 34, 2) := by decide +kernel
theorem d11_6 : decode prog_4_method_6_code 6 = .ok (.invokevirtual 27, 3) := by decide +kernel
theorem d11_9 : decode prog_4_method_6_code 9 = .ok (.lconst 0, 1) := by decide +kernel
theorem d11_10 : decode prog_4_method_6_code 10 = .ok (.lcmp, 1) := by decide +kernel
theorem d11_11 : decode prog_4_method_6_code 11 = .ok (.ifCond .eq 7, 3) := by decide +kernel
theorem d11_14 : decode prog_4_method_6_code 14 = .ok (.iconst 1, 1) := by decide +kernel
theorem d11_15 : decode prog_4_method_6_code 15 = .ok (.goto 4, 3) := by decide +kernel
theorem d11_18 : decode prog_4_method_6_code 18 = .ok (.iconst 0, 1) := by decide +kernel
theorem d11_19 : decode prog_4_method_6_code 19 = .ok (.ireturn, 1) := by decide +kernel
set_option maxRecDepth 65536 in
set_option maxHeartbeats 40000000 in
theorem rm11 (l : Launch) (Z : State) (a0 : Array Value) {w_VSYNC : Addr} {w_HOTPLUG : Addr} {w_MODE : Addr} (CX : Ctx Z a0 w_VSYNC w_HOTPLUG w_MODE) (ws : List Jvm.Cond) (a1 : Addr) (q : Int64) (r : Int32) (h0 : Heap) (O : Ext Z.heap h0) (E_a1 : Exa Z h0 a1 "com/example/framebeat/framebeat/DisplayEvent") (FK : Fld Z h0 a1 "com/example/framebeat/framebeat/DisplayEvent" "kind" "Lcom/example/framebeat/framebeat/DisplayEvent$Kind;" (.ref w_HOTPLUG)) (FV : Fld Z h0 a1 "com/example/framebeat/framebeat/DisplayEvent" "value" "J" (.long q)) (hr : r = if lcmpW q (0 : Int64) = (0 : Int32) then 0 else 1) :
    MetFree l (⟨"com/example/framebeat/framebeat/DisplayEvent", "isConnected", "()Z"⟩ : MethodName) (head1 (Jvm.Cond.code (⟨"com/example/framebeat/framebeat/DisplayEvent", "isConnected", "()Z"⟩ : MethodName) prog_4_method_6_code 1 (some .boolean) :: ws) ({ frames := 1, cells := 2, slots := 64, locals := 14 } : Room)) (fun a U => a = #[(.ref a1)] ∧ Z.Warmed39 U.vm ∧ U.heap = h0) (fun _ _ _ _ _ => True) (fun _ U o U' => ∃ v L, o = .returned v ∧ QE Z (.int r) h0 v U'.heap L ∧ ReturnedEndW U o U' L ({ frames := 1, cells := 2, slots := 64, locals := 14 } : Room).cells ({ frames := 1, cells := 2, slots := 64, locals := 14 } : Room).slots) := by
  refine MetFree.of_bodySF (plainFor_of_name pn_0) hisR ?_
  intro p e s m args below meth c s₁ Bd hml0 hP hK
  obtain ⟨rfl, hZ, hh⟩ := hP
  have CX0 := CX
  obtain ⟨hw, S_VSYNC, E_VSYNC, S_HOTPLUG, E_HOTPLUG, S_MODE, E_MODE, -⟩ := CX0
  have hx := Bd.exec
  have hby := Bd.bytes
  have hml : c.maxLocals = 1 := hml0
  have hown : s.vm.findClass "com/example/framebeat/framebeat/DisplayEvent" = some m.cls := findClass_of_methodNamed Bd.named
  have hnm := (name_of_methodNamed Bd.named Bd.method).1
  have hlk : meth.locks = false := BodyLoose.notSynchronized Bd
  have X0 : Stand p l e ({ frames := 1, cells := 2, slots := 64, locals := 14 } : Room) (s.setVm s.vm) m #[(.ref a1)] below meth c s₁ [] 0 0 := Stand.of_body Bd
  have e0 : s₁.heap = h0 := by rw [← hh, Bd.state]; rfl
  have N := Fr.nil Z.heap.size
  have wS : ∀ a ∈ Bundle.stringAtoms, a.before a0 Z = true := by
    intro a ha
    simp only [Bundle.stringAtoms, List.mem_cons, List.not_mem_nil, or_false] at ha
    rcases ha with rfl | rfl | rfl | rfl | rfl | rfl | rfl
    · exact (hw _ (List.mem_of_getElem? (i := 62) rfl))
    · exact (hw _ (List.mem_of_getElem? (i := 63) rfl))
    · exact (hw _ (List.mem_of_getElem? (i := 64) rfl))
    · exact (hw _ (List.mem_of_getElem? (i := 65) rfl))
    · exact (hw _ (List.mem_of_getElem? (i := 66) rfl))
    · exact (hw _ (List.mem_of_getElem? (i := 67) rfl))
    · exact (hw _ (List.mem_of_getElem? (i := 68) rfl))
  have hS : s.Since s.vm 0 := State.WarmedH.since (State.WarmedH.refl s) 0
  have hk : 0 ≤ h0.size := Nat.zero_le _
  show own_Done p.tables e below (own_RW (QE Z (.int r) h0) s 2 64) s₁ (entryFrame m #[(.ref a1)] 1)
  refine own_st (T' := s₁) (F' := (mkF m 0 #[.val (.ref a1)] [])) (fun t k => castTop (by first | (simp [entryFrame, mkF, argsToLocals, Value.category]; done) | rfl) k) ?_
  refine own_st (T' := s₁) (F' := (mkF m 1 #[.val (.ref a1)] [(.ref a1)])) (fun t k => XS.aloadN X0.here hx rfl (hb hby d11_0) rfl rfl k) ?_
  obtain ⟨T1, X1, e1, st1⟩ := getS2 X0 hx hZ hown (host := "") (Or.inl (hw _ (List.mem_of_getElem? (i := 80) rfl))) Via.refl e0 (S_HOTPLUG.ext O) (g := (mkF m 1 #[.val (.ref a1)] [(.ref a1)])) rfl (hb hby d11_1)
  refine own_st (T' := T1) (F' := (mkF m 4 #[.val (.ref a1)] [(.ref w_HOTPLUG), (.ref a1)])) st1 ?_
  obtain ⟨a2, T2, h2, ks2, X2, e2, E2, hS, hk2, hZ, hown, st2⟩ := ldcS X1 hx hZ hown (hw _ (List.mem_of_getElem? (i := 81) rfl)) wS e1 hS hk (g := (mkF m 4 #[.val (.ref a1)] [(.ref w_HOTPLUG), (.ref a1)])) rfl (hb hby d11_4) (n := 60) (by first | decide | simp | rfl) (by first | decide | simp | rfl) (by decide) (by decide)
  have E_a1 := E_a1.ext E2
  have FK := FK.ext E2
  have FV := FV.ext E2
  have O := own_ext_trans O E2
  have hk := Nat.le_trans hk E2.1
  have EX := E2
  have hk := hk2
  refine own_st (T' := T2) (F' := (mkF m 6 #[.val (.ref a1)] [(.ref a2), (.ref w_HOTPLUG), (.ref a1)])) st2 ?_
  obtain ⟨cq3, q3, q3'⟩ := E_a1.cell
  obtain ⟨v3, _, ⟨T3, L3, k3, n3⟩, -, X3, ⟨Lc3, hQ3, l3, y3, z3⟩, st3⟩ := X2.privateBack hx (y := (⟨"com/example/framebeat/framebeat/DisplayEvent", "valueOf", "(Lcom/example/framebeat/framebeat/DisplayEvent$Kind;Ljava/lang/String;)J"⟩ : MethodName)) hown (mvT hZ (hw _ (List.mem_of_getElem? (i := 69) rfl))) (mvT hZ (hw _ (List.mem_of_getElem? (i := 70) rfl))) (own_selects_private (args := #[(.ref a1)]) (mvT hZ (hw _ (List.mem_of_getElem? (i := 70) rfl))) (mvP hZ (hw _ (List.mem_of_getElem? (i := 71) rfl))) (mvT hZ (hw _ (List.mem_of_getElem? (i := 5) rfl))) (by decide)) (Cond.privateMethod_at (mvP hZ (hw _ (List.mem_of_getElem? (i := 71) rfl)) (args := #[]))) (mvT hZ (hw _ (List.mem_of_getElem? (i := 72) rfl))) (by decide) (backOf (W := 0) (rm10 l Z a0 CX [] a1 w_HOTPLUG (.ref a2) rfl q h2 O E_a1 FK FV) hZ (hw _ (List.mem_of_getElem? (i := 72) rfl)) (hw _ (List.mem_of_getElem? (i := 6) rfl)) (by decide) (by decide)) (g := (mkF m 6 #[.val (.ref a1)] [(.ref a2), (.ref w_HOTPLUG), (.ref a1)])) rfl (by rw [hml]; rfl) (Steps.refl _) (a := a1) (by rw [e2]; exact q3) q3' (argsL := [(.ref w_HOTPLUG), (.ref a2)]) (rest := []) (lenOf pd_0 rfl) rfl (by show 2 * 0 + _ ≤ _; exact Nat.le_of_eq rfl) (hb hby d11_6) (fun _ _ => ⟨rfl, e2, (by decide : 2 + 0 ≤ _), (by decide : 64 + 0 ≤ _)⟩)
  dsimp only [Pt.U, Pt.locs, Pt.cells, Pt.slots] at X3 l3 y3 z3 st3 hQ3
  subst l3 y3 z3
  obtain ⟨rfl, N3q, e3⟩ := hQ3
  have N := Fr.app N N3q
  refine own_tr (T' := T3) (F' := (mkF m 9 #[.val (.ref a1)] [(.long q)])) st3 ?_
  refine own_st (T' := T3) (F' := (mkF m 10 #[.val (.ref a1)] [(.long (0 : Int64)), (.long q)])) (fun t k => XS.lconst X3.here hx rfl (hb hby d11_9) k) ?_
  refine own_st (T' := T3) (F' := (mkF m 11 #[.val (.ref a1)] [(.int (lcmpW q (0 : Int64)))])) (fun t k => XS.lcmp X3.here hx rfl (hb hby d11_10) rfl k) ?_
  by_cases hc11_4 : (lcmpW q (0 : Int64)) = (0 : Int32)
  · refine own_st (T' := T3) (F' := (mkF m 18 #[.val (.ref a1)] [])) (fun t k => XS.ifYes X3.here hx rfl (pc0 := 11) (pc' := 18) rfl (hb hby d11_11) rfl ((if0 _ _).trans (teq hc11_4).1) (by decide) (by decide) k) ?_
    refine own_st (T' := T3) (F' := (mkF m 19 #[.val (.ref a1)] [(.int (0 : Int32))])) (fun t k => XS.iconst X3.here hx rfl (hb hby d11_18) k) ?_
    exact own_retNW X3 hx (t := .boolean) Bd.returns (by simp) (by decide) hS (by rw [e3]; exact hk) (hb hby d11_19) hlk (by show QE Z (.int r) h0 _ T3.heap _; rw [e3]; exact ⟨by simp [hr, hc11_4], N, EX⟩) (by decide) (by decide)
  · refine own_st (T' := T3) (F' := (mkF m 14 #[.val (.ref a1)] [])) (fun t k => XS.ifNo X3.here hx rfl (hb hby d11_11) rfl ((if0 _ _).trans (feq hc11_4).1) k) ?_
    refine own_st (T' := T3) (F' := (mkF m 15 #[.val (.ref a1)] [(.int (1 : Int32))])) (fun t k => XS.iconst X3.here hx rfl (hb hby d11_14) k) ?_
    refine own_st (T' := T3) (F' := (mkF m 19 #[.val (.ref a1)] [(.int (1 : Int32))])) (fun t k => XS.goto X3.here hx rfl (pc0 := 15) (pc' := 19) rfl (hb hby d11_15) (by decide) (by decide) k) ?_
    exact own_retNW X3 hx (t := .boolean) Bd.returns (by simp) (by decide) hS (by rw [e3]; exact hk) (hb hby d11_19) hlk (by show QE Z (.int r) h0 _ T3.heap _; rw [e3]; exact ⟨by simp [hr, hc11_4], N, EX⟩) (by decide) (by decide)
theorem pn_1 : plainName "com/example/framebeat/framebeat/DisplayEventSetPinLaw" = true := by first | (simp [plainName, overriddenIn]; done) | decide +kernel
theorem pd_1 : parseMethodDescriptor "()V" = some ⟨[], none⟩ := by decide +kernel
theorem pd_2 : parseMethodDescriptor "(Lcom/example/framebeat/framebeat/DisplayEvent$Kind;JJJZZ)V" = some ⟨[(.object "com/example/framebeat/framebeat/DisplayEvent$Kind"), .long, .long, .long, .boolean, .boolean], none⟩ := by decide +kernel
theorem pd_3 : parseMethodDescriptor "()Lcom/example/framebeat/framebeat/DisplayEvent$Kind;" = some ⟨[], some (.object "com/example/framebeat/framebeat/DisplayEvent$Kind")⟩ := by decide +kernel
theorem pd_4 : parseMethodDescriptor "()J" = some ⟨[], some .long⟩ := by decide +kernel
theorem pd_5 : parseMethodDescriptor "()Z" = some ⟨[], some .boolean⟩ := by decide +kernel
set_option maxRecDepth 65536 in
set_option maxHeartbeats 40000000 in
theorem rm0 (l : Launch) (Z : State) (a0 : Array Value) {w_VSYNC : Addr} {w_HOTPLUG : Addr} {w_MODE : Addr} (CX : Ctx Z a0 w_VSYNC w_HOTPLUG w_MODE) (ws : List Jvm.Cond) (x0 : Int32) (x1 : Int64) (x2 : Int64) (x3 : Int64) (x4 : Int32) (h0 : Heap) (O : Ext Z.heap h0)  :
    MetFree l x (head1 (Jvm.Cond.code x code maxLocals ret :: ws) room_1) (fun a U => a = #[(.int x0), (.long x1), (.long x2), (.long x3), (.int x4)] ∧ Z.Warmed39 U.vm ∧ U.heap = h0) (fun _ _ _ _ _ => True) (fun _ U o U' => ∃ v L, o = .returned v ∧ Q0 Z v U'.heap L ∧ ReturnedEndW U o U' L room_1.cells room_1.slots) := by
  refine MetFree.of_bodySF (plainFor_of_name pn_1) hisR ?_
  intro p e s m args below meth c s₁ Bd hml0 hP hK
  obtain ⟨rfl, hZ, hh⟩ := hP
  have CX0 := CX
  obtain ⟨hw, S_VSYNC, E_VSYNC, S_HOTPLUG, E_HOTPLUG, S_MODE, E_MODE, -⟩ := CX0
  have hx := Bd.exec
  have hby := Bd.bytes
  have hml : c.maxLocals = 16 := hml0
  have hown : s.vm.findClass "com/example/framebeat/framebeat/DisplayEventSetPinLaw" = some m.cls := findClass_of_methodNamed Bd.named
  have hnm := (name_of_methodNamed Bd.named Bd.method).1
  have hlk : meth.locks = false := BodyLoose.notSynchronized Bd
  have X0 : Stand p l e room_1 (s.setVm s.vm) m #[(.int x0), (.long x1), (.long x2), (.long x3), (.int x4)] below meth c s₁ [] 0 0 := Stand.of_body Bd
  have e0 : s₁.heap = h0 := by rw [← hh, Bd.state]; rfl
  have N := Fr.nil Z.heap.size
  have wS : ∀ a ∈ Bundle.stringAtoms, a.before a0 Z = true := by
    intro a ha
    simp only [Bundle.stringAtoms, List.mem_cons, List.not_mem_nil, or_false] at ha
    rcases ha with rfl | rfl | rfl | rfl | rfl | rfl | rfl
    · exact (hw _ (List.mem_of_getElem? (i := 62) rfl))
    · exact (hw _ (List.mem_of_getElem? (i := 63) rfl))
    · exact (hw _ (List.mem_of_getElem? (i := 64) rfl))
    · exact (hw _ (List.mem_of_getElem? (i := 65) rfl))
    · exact (hw _ (List.mem_of_getElem? (i := 66) rfl))
    · exact (hw _ (List.mem_of_getElem? (i := 67) rfl))
    · exact (hw _ (List.mem_of_getElem? (i := 68) rfl))
  have hS : s.Since s.vm 0 := State.WarmedH.since (State.WarmedH.refl s) 0
  have hk : 0 ≤ h0.size := Nat.zero_le _
  show own_Done p.tables e below (own_RW (Q0 Z) s 16 3200) s₁ (entryFrame m #[(.int x0), (.long x1), (.long x2), (.long x3), (.int x4)] maxLocals)
  refine own_st (T' := s₁) (F' := (mkF m 0 #[.val (.int x0), .val (.long x1), .second, .val (.long x2), .second, .val (.long x3), .second, .val (.int x4), .unset, .unset, .unset, .unset, .unset, .unset, .unset, .unset] [])) (fun t k => castTop (by first | (simp [entryFrame, mkF, argsToLocals, Value.category, maxLocals]; done) | rfl) k) ?_
  refine own_st (T' := s₁) (F' := (mkF m 1 #[.val (.int x0), .val (.long x1), .second, .val (.long x2), .second, .val (.long x3), .second, .val (.int x4), .unset, .unset, .unset, .unset, .unset, .unset, .unset, .unset] [(.int x0)])) (fun t k => XS.iloadN X0.here hx rfl (hb hby at_0) rfl k) ?_
  refine own_st (T' := s₁) (F' := (mkF m 3 #[.val (.int x0), .val (.long x1), .second, .val (.long x2), .second, .val (.long x3), .second, .val (.int x4), .unset, .unset, .unset, .unset, .unset, .unset, .unset, .unset] [(.int (2147483647 : Int32)), (.int x0)])) (fun t k => X0.ldcInt hx hown (mvT hZ (hw _ (List.mem_of_getElem? (i := 0) rfl))) (g := (mkF m 1 #[.val (.int x0), .val (.long x1), .second, .val (.long x2), .second, .val (.long x3), .second, .val (.int x4), .unset, .unset, .unset, .unset, .unset, .unset, .unset, .unset] [(.int x0)])) rfl (hb hby at_1) _ k) ?_
  refine own_st (T' := s₁) (F' := (mkF m 4 #[.val (.int x0), .val (.long x1), .second, .val (.long x2), .second, .val (.long x3), .second, .val (.int x4), .unset, .unset, .unset, .unset, .unset, .unset, .unset, .unset] [(.int (x0 &&& (2147483647 : Int32)))])) (fun t k => XS.iand X0.here hx rfl (hb hby at_3) rfl k) ?_
  refine own_st (T' := s₁) (F' := (mkF m 5 #[.val (.int x0), .val (.long x1), .second, .val (.long x2), .second, .val (.long x3), .second, .val (.int x4), .unset, .unset, .unset, .unset, .unset, .unset, .unset, .unset] [(.int (3 : Int32)), (.int (x0 &&& (2147483647 : Int32)))])) (fun t k => XS.iconst X0.here hx rfl (hb hby at_4) k) ?_
  refine own_st (T' := s₁) (F' := (mkF m 6 #[.val (.int x0), .val (.long x1), .second, .val (.long x2), .second, .val (.long x3), .second, .val (.int x4), .unset, .unset, .unset, .unset, .unset, .unset, .unset, .unset] [(.int ((x0 &&& (2147483647 : Int32)) % (3 : Int32)))])) (fun t k => iremM (g := (mkF m 5 #[.val (.int x0), .val (.long x1), .second, .val (.long x2), .second, .val (.long x3), .second, .val (.int x4), .unset, .unset, .unset, .unset, .unset, .unset, .unset, .unset] [(.int (3 : Int32)), (.int (x0 &&& (2147483647 : Int32)))])) X0 hx rfl (hb hby at_5) rfl (by decide) k) ?_
  refine own_st (T' := s₁) (F' := (mkF m 8 #[.val (.int x0), .val (.long x1), .second, .val (.long x2), .second, .val (.long x3), .second, .val (.int x4), .val (.int ((x0 &&& (2147483647 : Int32)) % (3 : Int32))), .unset, .unset, .unset, .unset, .unset, .unset, .unset] [])) (fun t k => XS.istore X0.here hx rfl (hb hby at_6) rfl (l' := #[.val (.int x0), .val (.long x1), .second, .val (.long x2), .second, .val (.long x3), .second, .val (.int x4), .val (.int ((x0 &&& (2147483647 : Int32)) % (3 : Int32))), .unset, .unset, .unset, .unset, .unset, .unset, .unset]) rfl k) ?_
  have J22_1 : ∀ (T2 : State) (L2 : List Loc) (X2 : Stand p l e room_1 (s.setVm s.vm) m #[(.int x0), (.long x1), (.long x2), (.long x3), (.int x4)] below meth c T2 L2 0 0) (e2 : T2.heap = h0) (N : Fr Z.heap.size L2) (b9 : Int32) (hb9 : b9 = 0 ∨ b9 = 1), own_Done p.tables e below (own_RW (Q0 Z) s 16 3200) T2 (mkF m 22 #[.val (.int x0), .val (.long x1), .second, .val (.long x2), .second, .val (.long x3), .second, .val (.int x4), .val (.int ((x0 &&& (2147483647 : Int32)) % (3 : Int32))), .val (.int b9), .unset, .unset, .unset, .unset, .unset, .unset] []) := by
    intro T2 L2 X2 e2 N b9 hb9
    have J36_3 : ∀ (T4 : State) (L4 : List Loc) (X4 : Stand p l e room_1 (s.setVm s.vm) m #[(.int x0), (.long x1), (.long x2), (.long x3), (.int x4)] below meth c T4 L4 0 0) (e4 : T4.heap = h0) (N : Fr Z.heap.size L4) (b10 : Int32) (hb10 : b10 = 0 ∨ b10 = 1), own_Done p.tables e below (own_RW (Q0 Z) s 16 3200) T4 (mkF m 36 #[.val (.int x0), .val (.long x1), .second, .val (.long x2), .second, .val (.long x3), .second, .val (.int x4), .val (.int ((x0 &&& (2147483647 : Int32)) % (3 : Int32))), .val (.int b9), .val (.int b10), .unset, .unset, .unset, .unset, .unset] []) := by
      intro T4 L4 X4 e4 N b10 hb10
      refine own_st (T' := T4) (F' := (mkF m 38 #[.val (.int x0), .val (.long x1), .second, .val (.long x2), .second, .val (.long x3), .second, .val (.int x4), .val (.int ((x0 &&& (2147483647 : Int32)) % (3 : Int32))), .val (.int b9), .val (.int b10), .unset, .unset, .unset, .unset, .unset] [(.int ((x0 &&& (2147483647 : Int32)) % (3 : Int32)))])) (fun t k => XS.iload X4.here hx rfl (hb hby at_36) rfl k) ?_
      by_cases hc38_5 : ((x0 &&& (2147483647 : Int32)) % (3 : Int32)) = (0 : Int32)
      · refine own_st (T' := T4) (F' := (mkF m 41 #[.val (.int x0), .val (.long x1), .second, .val (.long x2), .second, .val (.long x3), .second, .val (.int x4), .val (.int ((x0 &&& (2147483647 : Int32)) % (3 : Int32))), .val (.int b9), .val (.int b10), .unset, .unset, .unset, .unset, .unset] [])) (fun t k => XS.ifNo X4.here hx rfl (hb hby at_38) rfl ((if0 _ _).trans (teq hc38_5).2) k) ?_
        obtain ⟨T6, X6, e6, st6⟩ := getS2 X4 hx hZ hown (host := "") (Or.inl (hw _ (List.mem_of_getElem? (i := 1) rfl))) Via.refl e4 (S_VSYNC.ext O) (g := (mkF m 41 #[.val (.int x0), .val (.long x1), .second, .val (.long x2), .second, .val (.long x3), .second, .val (.int x4), .val (.int ((x0 &&& (2147483647 : Int32)) % (3 : Int32))), .val (.int b9), .val (.int b10), .unset, .unset, .unset, .unset, .unset] [])) rfl (hb hby at_41)
        refine own_st (T' := T6) (F' := (mkF m 44 #[.val (.int x0), .val (.long x1), .second, .val (.long x2), .second, .val (.long x3), .second, .val (.int x4), .val (.int ((x0 &&& (2147483647 : Int32)) % (3 : Int32))), .val (.int b9), .val (.int b10), .unset, .unset, .unset, .unset, .unset] [(.ref w_VSYNC)])) st6 ?_
        refine own_st (T' := T6) (F' := (mkF m 46 #[.val (.int x0), .val (.long x1), .second, .val (.long x2), .second, .val (.long x3), .second, .val (.int x4), .val (.int ((x0 &&& (2147483647 : Int32)) % (3 : Int32))), .val (.int b9), .val (.int b10), .val (.ref w_VSYNC), .unset, .unset, .unset, .unset] [])) (fun t k => XS.astore X6.here hx rfl (hb hby at_44) rfl rfl (l' := #[.val (.int x0), .val (.long x1), .second, .val (.long x2), .second, .val (.long x3), .second, .val (.int x4), .val (.int ((x0 &&& (2147483647 : Int32)) % (3 : Int32))), .val (.int b9), .val (.int b10), .val (.ref w_VSYNC), .unset, .unset, .unset, .unset]) rfl k) ?_
        refine own_st (T' := T6) (F' := (mkF m 48 #[.val (.int x0), .val (.long x1), .second, .val (.long x2), .second, .val (.long x3), .second, .val (.int x4), .val (.int ((x0 &&& (2147483647 : Int32)) % (3 : Int32))), .val (.int b9), .val (.int b10), .val (.ref w_VSYNC), .unset, .unset, .unset, .unset] [(.long x3)])) (fun t k => XS.lload X6.here hx rfl (hb hby at_46) rfl k) ?_
        refine own_st (T' := T6) (F' := (mkF m 50 #[.val (.int x0), .val (.long x1), .second, .val (.long x2), .second, .val (.long x3), .second, .val (.int x4), .val (.int ((x0 &&& (2147483647 : Int32)) % (3 : Int32))), .val (.int b9), .val (.int b10), .val (.ref w_VSYNC), .val (.long x3), .second, .unset, .unset] [])) (fun t k => XS.lstore X6.here hx rfl (hb hby at_48) rfl (l' := #[.val (.int x0), .val (.long x1), .second, .val (.long x2), .second, .val (.long x3), .second, .val (.int x4), .val (.int ((x0 &&& (2147483647 : Int32)) % (3 : Int32))), .val (.int b9), .val (.int b10), .val (.ref w_VSYNC), .val (.long x3), .second, .unset, .unset]) rfl k) ?_
        refine own_st (T' := T6) (F' := (mkF m 94 #[.val (.int x0), .val (.long x1), .second, .val (.long x2), .second, .val (.long x3), .second, .val (.int x4), .val (.int ((x0 &&& (2147483647 : Int32)) % (3 : Int32))), .val (.int b9), .val (.int b10), .val (.ref w_VSYNC), .val (.long x3), .second, .unset, .unset] [])) (fun t k => XS.goto X6.here hx rfl (pc0 := 50) (pc' := 94) rfl (hb hby at_50) (by decide) (by decide) k) ?_
        obtain ⟨T7, h7, X7, e7, E7, A7, D7, U7, st7⟩ := newO X6 hx hZ hown (hw _ (List.mem_of_getElem? (i := 4) rfl)) (hw _ (List.mem_of_getElem? (i := 5) rfl)) (hw _ (List.mem_of_getElem? (i := 6) rfl)) e6 (g := (mkF m 94 #[.val (.int x0), .val (.long x1), .second, .val (.long x2), .second, .val (.long x3), .second, .val (.int x4), .val (.int ((x0 &&& (2147483647 : Int32)) % (3 : Int32))), .val (.int b9), .val (.int b10), .val (.ref w_VSYNC), .val (.long x3), .second, .unset, .unset] [])) rfl (hb hby at_94) (by decide) (by decide)
        obtain ⟨b7, g7⟩ : ∃ z, z = h0.size := ⟨_, rfl⟩
        rw [← g7] at A7 D7 U7 st7
        have g_b7 : Z.heap.size ≤ b7 := Nat.le_trans O.1 (Nat.le_of_eq g7.symm)
        have O := own_ext_trans O E7
        have hk := Nat.le_trans hk E7.1
        have E_b7 := A7
        have F_kind_b7 : Fld Z h7 b7 "com/example/framebeat/framebeat/DisplayEvent" "kind" "Lcom/example/framebeat/framebeat/DisplayEvent$Kind;" .null := D7 (Or.inl (hw _ (List.mem_of_getElem? (i := 15) rfl))) (ty := (.object "com/example/framebeat/framebeat/DisplayEvent$Kind")) (by decide)
        have F_displayId_b7 : Fld Z h7 b7 "com/example/framebeat/framebeat/DisplayEvent" "displayId" "J" (.long (0 : Int64)) := D7 (Or.inl (hw _ (List.mem_of_getElem? (i := 22) rfl))) (ty := .long) (by decide)
        have F_timestampNanos_b7 : Fld Z h7 b7 "com/example/framebeat/framebeat/DisplayEvent" "timestampNanos" "J" (.long (0 : Int64)) := D7 (Or.inl (hw _ (List.mem_of_getElem? (i := 24) rfl))) (ty := .long) (by decide)
        have F_value_b7 : Fld Z h7 b7 "com/example/framebeat/framebeat/DisplayEvent" "value" "J" (.long (0 : Int64)) := D7 (Or.inl (hw _ (List.mem_of_getElem? (i := 26) rfl))) (ty := .long) (by decide)
        have F_substitute_b7 : Fld Z h7 b7 "com/example/framebeat/framebeat/DisplayEvent" "substitute" "Z" (.int (0 : Int32)) := D7 (Or.inl (hw _ (List.mem_of_getElem? (i := 28) rfl))) (ty := .boolean) (by decide)
        have F_synthetic_b7 : Fld Z h7 b7 "com/example/framebeat/framebeat/DisplayEvent" "synthetic" "Z" (.int (0 : Int32)) := D7 (Or.inl (hw _ (List.mem_of_getElem? (i := 30) rfl))) (ty := .boolean) (by decide)
        refine own_st (T' := T7) (F' := (mkF m 97 #[.val (.int x0), .val (.long x1), .second, .val (.long x2), .second, .val (.long x3), .second, .val (.int x4), .val (.int ((x0 &&& (2147483647 : Int32)) % (3 : Int32))), .val (.int b9), .val (.int b10), .val (.ref w_VSYNC), .val (.long x3), .second, .unset, .unset] [(.ref b7)])) st7 ?_
        refine own_st (T' := T7) (F' := (mkF m 98 #[.val (.int x0), .val (.long x1), .second, .val (.long x2), .second, .val (.long x3), .second, .val (.int x4), .val (.int ((x0 &&& (2147483647 : Int32)) % (3 : Int32))), .val (.int b9), .val (.int b10), .val (.ref w_VSYNC), .val (.long x3), .second, .unset, .unset] [(.ref b7), (.ref b7)])) (fun t k => XS.dup X7.here hx rfl (hb hby at_97) rfl rfl k) ?_
        obtain ⟨v8, _, ⟨T8, L8, k8, n8⟩, -, X8, ⟨Lc8, hQ8, l8, y8, z8⟩, st8⟩ := X7.specialBack hx (y := (⟨"com/example/framebeat/framebeat/DisplayEvent", "<init>", "()V"⟩ : MethodName)) rfl hown (mvT hZ (hw _ (List.mem_of_getElem? (i := 7) rfl))) (mvT hZ (hw _ (List.mem_of_getElem? (i := 8) rfl))) (mvT hZ (hw _ (List.mem_of_getElem? (i := 9) rfl))) (by decide) (backOf (W := 1) (rm1 l Z a0 CX [] b7 .null rfl (0 : Int64) (0 : Int64) (0 : Int64) (0 : Int32) (Or.inl rfl) (0 : Int32) (Or.inl rfl) h7 O E_b7 g_b7 F_kind_b7 F_displayId_b7 F_timestampNanos_b7 F_value_b7 F_substitute_b7 F_synthetic_b7) hZ (hw _ (List.mem_of_getElem? (i := 9) rfl)) (hw _ (List.mem_of_getElem? (i := 6) rfl)) (by decide) (by decide)) (g := (mkF m 98 #[.val (.int x0), .val (.long x1), .second, .val (.long x2), .second, .val (.long x3), .second, .val (.int x4), .val (.int ((x0 &&& (2147483647 : Int32)) % (3 : Int32))), .val (.int b9), .val (.int b10), .val (.ref w_VSYNC), .val (.long x3), .second, .unset, .unset] [(.ref b7), (.ref b7)])) rfl (by rw [hml]; rfl) (Steps.refl _) (a := b7) (argsL := []) (rest := [(.ref b7)]) (lenOf pd_1 rfl) rfl (by show 2 * 0 + _ ≤ _; exact Nat.le_of_eq rfl) (hb hby at_98) (fun _ _ => ⟨rfl, e7, (by decide : 1 + 0 ≤ _), (by decide : 6 + 0 ≤ _)⟩)
        dsimp only [Pt.U, Pt.locs, Pt.cells, Pt.slots] at X8 l8 y8 z8 st8 hQ8
        subst l8 y8 z8
        obtain ⟨rfl, N8q, K8, F_kind_b7, F_displayId_b7, F_timestampNanos_b7, F_value_b7, F_substitute_b7, F_synthetic_b7⟩ := hQ8
        have N := Fr.app N N8q
        have E_b7 := E_b7.keep K8
        have O := own_O_keep O K8 (allS g_b7 all0)
        have hk := Nat.le_trans hk K8.1
        refine own_tr (T' := T8) (F' := (mkF m 101 #[.val (.int x0), .val (.long x1), .second, .val (.long x2), .second, .val (.long x3), .second, .val (.int x4), .val (.int ((x0 &&& (2147483647 : Int32)) % (3 : Int32))), .val (.int b9), .val (.int b10), .val (.ref w_VSYNC), .val (.long x3), .second, .unset, .unset] [(.ref b7)])) st8 ?_
        refine own_st (T' := T8) (F' := (mkF m 103 #[.val (.int x0), .val (.long x1), .second, .val (.long x2), .second, .val (.long x3), .second, .val (.int x4), .val (.int ((x0 &&& (2147483647 : Int32)) % (3 : Int32))), .val (.int b9), .val (.int b10), .val (.ref w_VSYNC), .val (.long x3), .second, .val (.ref b7), .unset] [])) (fun t k => XS.astore X8.here hx rfl (hb hby at_101) rfl rfl (l' := #[.val (.int x0), .val (.long x1), .second, .val (.long x2), .second, .val (.long x3), .second, .val (.int x4), .val (.int ((x0 &&& (2147483647 : Int32)) % (3 : Int32))), .val (.int b9), .val (.int b10), .val (.ref w_VSYNC), .val (.long x3), .second, .val (.ref b7), .unset]) rfl k) ?_
        refine own_st (T' := T8) (F' := (mkF m 105 #[.val (.int x0), .val (.long x1), .second, .val (.long x2), .second, .val (.long x3), .second, .val (.int x4), .val (.int ((x0 &&& (2147483647 : Int32)) % (3 : Int32))), .val (.int b9), .val (.int b10), .val (.ref w_VSYNC), .val (.long x3), .second, .val (.ref b7), .unset] [(.ref b7)])) (fun t k => XS.aload X8.here hx rfl (hb hby at_103) rfl rfl k) ?_
        refine own_st (T' := T8) (F' := (mkF m 107 #[.val (.int x0), .val (.long x1), .second, .val (.long x2), .second, .val (.long x3), .second, .val (.int x4), .val (.int ((x0 &&& (2147483647 : Int32)) % (3 : Int32))), .val (.int b9), .val (.int b10), .val (.ref w_VSYNC), .val (.long x3), .second, .val (.ref b7), .unset] [(.ref w_VSYNC), (.ref b7)])) (fun t k => XS.aload X8.here hx rfl (hb hby at_105) rfl rfl k) ?_
        refine own_st (T' := T8) (F' := (mkF m 108 #[.val (.int x0), .val (.long x1), .second, .val (.long x2), .second, .val (.long x3), .second, .val (.int x4), .val (.int ((x0 &&& (2147483647 : Int32)) % (3 : Int32))), .val (.int b9), .val (.int b10), .val (.ref w_VSYNC), .val (.long x3), .second, .val (.ref b7), .unset] [(.long x1), (.ref w_VSYNC), (.ref b7)])) (fun t k => XS.lloadN X8.here hx rfl (hb hby at_107) rfl k) ?_
        refine own_st (T' := T8) (F' := (mkF m 109 #[.val (.int x0), .val (.long x1), .second, .val (.long x2), .second, .val (.long x3), .second, .val (.int x4), .val (.int ((x0 &&& (2147483647 : Int32)) % (3 : Int32))), .val (.int b9), .val (.int b10), .val (.ref w_VSYNC), .val (.long x3), .second, .val (.ref b7), .unset] [(.long x2), (.long x1), (.ref w_VSYNC), (.ref b7)])) (fun t k => XS.lloadN X8.here hx rfl (hb hby at_108) rfl k) ?_
        refine own_st (T' := T8) (F' := (mkF m 111 #[.val (.int x0), .val (.long x1), .second, .val (.long x2), .second, .val (.long x3), .second, .val (.int x4), .val (.int ((x0 &&& (2147483647 : Int32)) % (3 : Int32))), .val (.int b9), .val (.int b10), .val (.ref w_VSYNC), .val (.long x3), .second, .val (.ref b7), .unset] [(.long x3), (.long x2), (.long x1), (.ref w_VSYNC), (.ref b7)])) (fun t k => XS.lload X8.here hx rfl (hb hby at_109) rfl k) ?_
        refine own_st (T' := T8) (F' := (mkF m 113 #[.val (.int x0), .val (.long x1), .second, .val (.long x2), .second, .val (.long x3), .second, .val (.int x4), .val (.int ((x0 &&& (2147483647 : Int32)) % (3 : Int32))), .val (.int b9), .val (.int b10), .val (.ref w_VSYNC), .val (.long x3), .second, .val (.ref b7), .unset] [(.int b9), (.long x3), (.long x2), (.long x1), (.ref w_VSYNC), (.ref b7)])) (fun t k => XS.iload X8.here hx rfl (hb hby at_111) rfl k) ?_
        refine own_st (T' := T8) (F' := (mkF m 115 #[.val (.int x0), .val (.long x1), .second, .val (.long x2), .second, .val (.long x3), .second, .val (.int x4), .val (.int ((x0 &&& (2147483647 : Int32)) % (3 : Int32))), .val (.int b9), .val (.int b10), .val (.ref w_VSYNC), .val (.long x3), .second, .val (.ref b7), .unset] [(.int b10), (.int b9), (.long x3), (.long x2), (.long x1), (.ref w_VSYNC), (.ref b7)])) (fun t k => XS.iload X8.here hx rfl (hb hby at_113) rfl k) ?_
        obtain ⟨cq9, kq9, q9a, q9b, q9c⟩ := isOf hZ rfl E_b7
        obtain ⟨v9, _, ⟨T9, L9, k9, n9⟩, -, X9, ⟨Lc9, hQ9, l9, y9, z9⟩, st9⟩ := X8.virtualBack hx (y := (⟨"com/example/framebeat/framebeat/DisplayEvent", "set", "(Lcom/example/framebeat/framebeat/DisplayEvent$Kind;JJJZZ)V"⟩ : MethodName)) (z := (⟨"com/example/framebeat/framebeat/DisplayEvent", "set", "(Lcom/example/framebeat/framebeat/DisplayEvent$Kind;JJJZZ)V"⟩ : MethodName)) hown (mvT hZ (hw _ (List.mem_of_getElem? (i := 16) rfl))) (mvT hZ (hw _ (List.mem_of_getElem? (i := 17) rfl))) (notFace_of_selects (args := #[]) (mvT hZ (hw _ (List.mem_of_getElem? (i := 19) rfl)))) (mvT hZ (hw _ (List.mem_of_getElem? (i := 19) rfl))) (mvT hZ (hw _ (List.mem_of_getElem? (i := 18) rfl))) (by decide) (backOf (W := 0) (rm3 l Z a0 CX [] b7 (.ref w_VSYNC) rfl x1 x2 x3 b9 hb9 b10 hb10 (.ref w_VSYNC) rfl (0 : Int64) (0 : Int64) (0 : Int64) (0 : Int32) (Or.inl rfl) (0 : Int32) (Or.inl rfl) T8.heap O E_b7 g_b7 F_kind_b7 F_displayId_b7 F_timestampNanos_b7 F_value_b7 F_substitute_b7 F_synthetic_b7) hZ (hw _ (List.mem_of_getElem? (i := 20) rfl)) (hw _ (List.mem_of_getElem? (i := 6) rfl)) (by decide) (by decide)) q9a q9c (g := (mkF m 115 #[.val (.int x0), .val (.long x1), .second, .val (.long x2), .second, .val (.long x3), .second, .val (.int x4), .val (.int ((x0 &&& (2147483647 : Int32)) % (3 : Int32))), .val (.int b9), .val (.int b10), .val (.ref w_VSYNC), .val (.long x3), .second, .val (.ref b7), .unset] [(.int b10), (.int b9), (.long x3), (.long x2), (.long x1), (.ref w_VSYNC), (.ref b7)])) rfl (by rw [hml]; rfl) (Steps.refl _) (argsL := [(.ref w_VSYNC), (.long x1), (.long x2), (.long x3), (.int b9), (.int b10)]) (rest := []) (lenOf pd_2 rfl) rfl (by show 2 * 0 + _ ≤ _; exact Nat.le_of_eq rfl) (hb hby at_115) (fun _ _ => ⟨rfl, rfl, (by decide : 1 + 0 ≤ _), (by decide : 6 + 0 ≤ _)⟩)
        dsimp only [Pt.U, Pt.locs, Pt.cells, Pt.slots] at X9 l9 y9 z9 st9 hQ9
        subst l9 y9 z9
        obtain ⟨rfl, N9q, K9, F_kind_b7, F_displayId_b7, F_timestampNanos_b7, F_value_b7, F_substitute_b7, F_synthetic_b7⟩ := hQ9
        have N := Fr.app N N9q
        have E_b7 := E_b7.keep K9
        have O := own_O_keep O K9 (allS g_b7 all0)
        have hk := Nat.le_trans hk K9.1
        refine own_tr (T' := T9) (F' := (mkF m 118 #[.val (.int x0), .val (.long x1), .second, .val (.long x2), .second, .val (.long x3), .second, .val (.int x4), .val (.int ((x0 &&& (2147483647 : Int32)) % (3 : Int32))), .val (.int b9), .val (.int b10), .val (.ref w_VSYNC), .val (.long x3), .second, .val (.ref b7), .unset] [])) st9 ?_
        refine own_st (T' := T9) (F' := (mkF m 120 #[.val (.int x0), .val (.long x1), .second, .val (.long x2), .second, .val (.long x3), .second, .val (.int x4), .val (.int ((x0 &&& (2147483647 : Int32)) % (3 : Int32))), .val (.int b9), .val (.int b10), .val (.ref w_VSYNC), .val (.long x3), .second, .val (.ref b7), .unset] [(.ref b7)])) (fun t k => XS.aload X9.here hx rfl (hb hby at_118) rfl rfl k) ?_
        obtain ⟨cq10, kq10, q10a, q10b, q10c⟩ := isOf hZ rfl E_b7
        obtain ⟨v10, _, ⟨T10, L10, k10, n10⟩, -, X10, ⟨Lc10, hQ10, l10, y10, z10⟩, st10⟩ := X9.virtualBack hx (y := (⟨"com/example/framebeat/framebeat/DisplayEvent", "kind", "()Lcom/example/framebeat/framebeat/DisplayEvent$Kind;"⟩ : MethodName)) (z := (⟨"com/example/framebeat/framebeat/DisplayEvent", "kind", "()Lcom/example/framebeat/framebeat/DisplayEvent$Kind;"⟩ : MethodName)) hown (mvT hZ (hw _ (List.mem_of_getElem? (i := 31) rfl))) (mvT hZ (hw _ (List.mem_of_getElem? (i := 32) rfl))) (notFace_of_selects (args := #[]) (mvT hZ (hw _ (List.mem_of_getElem? (i := 34) rfl)))) (mvT hZ (hw _ (List.mem_of_getElem? (i := 34) rfl))) (mvT hZ (hw _ (List.mem_of_getElem? (i := 33) rfl))) (by decide) (backOf (W := 0) (rm4 l Z a0 CX [] b7 (.ref w_VSYNC) rfl T9.heap O F_kind_b7) hZ (hw _ (List.mem_of_getElem? (i := 35) rfl)) (hw _ (List.mem_of_getElem? (i := 6) rfl)) (by decide) (by decide)) q10a q10c (g := (mkF m 120 #[.val (.int x0), .val (.long x1), .second, .val (.long x2), .second, .val (.long x3), .second, .val (.int x4), .val (.int ((x0 &&& (2147483647 : Int32)) % (3 : Int32))), .val (.int b9), .val (.int b10), .val (.ref w_VSYNC), .val (.long x3), .second, .val (.ref b7), .unset] [(.ref b7)])) rfl (by rw [hml]; rfl) (Steps.refl _) (argsL := []) (rest := []) (lenOf pd_3 rfl) rfl (by show 2 * 0 + _ ≤ _; exact Nat.le_of_eq rfl) (hb hby at_120) (fun _ _ => ⟨rfl, rfl, (by decide : 1 + 0 ≤ _), (by decide : 6 + 0 ≤ _)⟩)
        dsimp only [Pt.U, Pt.locs, Pt.cells, Pt.slots] at X10 l10 y10 z10 st10 hQ10
        subst l10 y10 z10
        obtain ⟨rfl, N10q, e10⟩ := hQ10
        have N := Fr.app N N10q
        refine own_tr (T' := T10) (F' := (mkF m 123 #[.val (.int x0), .val (.long x1), .second, .val (.long x2), .second, .val (.long x3), .second, .val (.int x4), .val (.int ((x0 &&& (2147483647 : Int32)) % (3 : Int32))), .val (.int b9), .val (.int b10), .val (.ref w_VSYNC), .val (.long x3), .second, .val (.ref b7), .unset] [(.ref w_VSYNC)])) st10 ?_
        refine own_st (T' := T10) (F' := (mkF m 125 #[.val (.int x0), .val (.long x1), .second, .val (.long x2), .second, .val (.long x3), .second, .val (.int x4), .val (.int ((x0 &&& (2147483647 : Int32)) % (3 : Int32))), .val (.int b9), .val (.int b10), .val (.ref w_VSYNC), .val (.long x3), .second, .val (.ref b7), .unset] [(.ref w_VSYNC), (.ref w_VSYNC)])) (fun t k => XS.aload X10.here hx rfl (hb hby at_123) rfl rfl k) ?_
        refine own_st (T' := T10) (F' := (mkF m 130 #[.val (.int x0), .val (.long x1), .second, .val (.long x2), .second, .val (.long x3), .second, .val (.int x4), .val (.int ((x0 &&& (2147483647 : Int32)) % (3 : Int32))), .val (.int b9), .val (.int b10), .val (.ref w_VSYNC), .val (.long x3), .second, .val (.ref b7), .unset] [])) (fun t k => Jvm.RoadKit.acmp (g := (mkF m 125 #[.val (.int x0), .val (.long x1), .second, .val (.long x2), .second, .val (.long x3), .second, .val (.int x4), .val (.int ((x0 &&& (2147483647 : Int32)) % (3 : Int32))), .val (.int b9), .val (.int b10), .val (.ref w_VSYNC), .val (.long x3), .second, .val (.ref b7), .unset] [(.ref w_VSYNC), (.ref w_VSYNC)])) X10 hx rfl rfl rfl (pc0 := 125) (pc' := 130) (same := true) rfl (hb hby at_125) rfl (decide_eq_true rfl) (by decide) (by decide) k) ?_
        refine own_st (T' := T10) (F' := (mkF m 132 #[.val (.int x0), .val (.long x1), .second, .val (.long x2), .second, .val (.long x3), .second, .val (.int x4), .val (.int ((x0 &&& (2147483647 : Int32)) % (3 : Int32))), .val (.int b9), .val (.int b10), .val (.ref w_VSYNC), .val (.long x3), .second, .val (.ref b7), .unset] [(.ref b7)])) (fun t k => XS.aload X10.here hx rfl (hb hby at_130) rfl rfl k) ?_
        obtain ⟨cq11, kq11, q11a, q11b, q11c⟩ := isOf hZ e10 E_b7
        obtain ⟨v11, _, ⟨T11, L11, k11, n11⟩, -, X11, ⟨Lc11, hQ11, l11, y11, z11⟩, st11⟩ := X10.virtualBack hx (y := (⟨"com/example/framebeat/framebeat/DisplayEvent", "displayId", "()J"⟩ : MethodName)) (z := (⟨"com/example/framebeat/framebeat/DisplayEvent", "displayId", "()J"⟩ : MethodName)) hown (mvT hZ (hw _ (List.mem_of_getElem? (i := 36) rfl))) (mvT hZ (hw _ (List.mem_of_getElem? (i := 37) rfl))) (notFace_of_selects (args := #[]) (mvT hZ (hw _ (List.mem_of_getElem? (i := 39) rfl)))) (mvT hZ (hw _ (List.mem_of_getElem? (i := 39) rfl))) (mvT hZ (hw _ (List.mem_of_getElem? (i := 38) rfl))) (by decide) (backOf (W := 0) (rm5 l Z a0 CX [] b7 x1 T9.heap O F_displayId_b7) hZ (hw _ (List.mem_of_getElem? (i := 40) rfl)) (hw _ (List.mem_of_getElem? (i := 6) rfl)) (by decide) (by decide)) q11a q11c (g := (mkF m 132 #[.val (.int x0), .val (.long x1), .second, .val (.long x2), .second, .val (.long x3), .second, .val (.int x4), .val (.int ((x0 &&& (2147483647 : Int32)) % (3 : Int32))), .val (.int b9), .val (.int b10), .val (.ref w_VSYNC), .val (.long x3), .second, .val (.ref b7), .unset] [(.ref b7)])) rfl (by rw [hml]; rfl) (Steps.refl _) (argsL := []) (rest := []) (lenOf pd_4 rfl) rfl (by show 2 * 0 + _ ≤ _; exact Nat.le_of_eq rfl) (hb hby at_132) (fun _ _ => ⟨rfl, e10, (by decide : 1 + 0 ≤ _), (by decide : 6 + 0 ≤ _)⟩)
        dsimp only [Pt.U, Pt.locs, Pt.cells, Pt.slots] at X11 l11 y11 z11 st11 hQ11
        subst l11 y11 z11
        obtain ⟨rfl, N11q, e11⟩ := hQ11
        have N := Fr.app N N11q
        refine own_tr (T' := T11) (F' := (mkF m 135 #[.val (.int x0), .val (.long x1), .second, .val (.long x2), .second, .val (.long x3), .second, .val (.int x4), .val (.int ((x0 &&& (2147483647 : Int32)) % (3 : Int32))), .val (.int b9), .val (.int b10), .val (.ref w_VSYNC), .val (.long x3), .second, .val (.ref b7), .unset] [(.long x1)])) st11 ?_
        refine own_st (T' := T11) (F' := (mkF m 136 #[.val (.int x0), .val (.long x1), .second, .val (.long x2), .second, .val (.long x3), .second, .val (.int x4), .val (.int ((x0 &&& (2147483647 : Int32)) % (3 : Int32))), .val (.int b9), .val (.int b10), .val (.ref w_VSYNC), .val (.long x3), .second, .val (.ref b7), .unset] [(.long x1), (.long x1)])) (fun t k => XS.lloadN X11.here hx rfl (hb hby at_135) rfl k) ?_
        refine own_st (T' := T11) (F' := (mkF m 137 #[.val (.int x0), .val (.long x1), .second, .val (.long x2), .second, .val (.long x3), .second, .val (.int x4), .val (.int ((x0 &&& (2147483647 : Int32)) % (3 : Int32))), .val (.int b9), .val (.int b10), .val (.ref w_VSYNC), .val (.long x3), .second, .val (.ref b7), .unset] [(.int (lcmpW x1 x1))])) (fun t k => XS.lcmp X11.here hx rfl (hb hby at_136) rfl k) ?_
        refine own_st (T' := T11) (F' := (mkF m 142 #[.val (.int x0), .val (.long x1), .second, .val (.long x2), .second, .val (.long x3), .second, .val (.int x4), .val (.int ((x0 &&& (2147483647 : Int32)) % (3 : Int32))), .val (.int b9), .val (.int b10), .val (.ref w_VSYNC), .val (.long x3), .second, .val (.ref b7), .unset] [])) (fun t k => XS.ifYes X11.here hx rfl (pc0 := 137) (pc' := 142) rfl (hb hby at_137) rfl ((if0 _ _).trans (teq ((lw_eq _ _).mpr rfl)).1) (by decide) (by decide) k) ?_
        refine own_st (T' := T11) (F' := (mkF m 144 #[.val (.int x0), .val (.long x1), .second, .val (.long x2), .second, .val (.long x3), .second, .val (.int x4), .val (.int ((x0 &&& (2147483647 : Int32)) % (3 : Int32))), .val (.int b9), .val (.int b10), .val (.ref w_VSYNC), .val (.long x3), .second, .val (.ref b7), .unset] [(.ref b7)])) (fun t k => XS.aload X11.here hx rfl (hb hby at_142) rfl rfl k) ?_
        obtain ⟨cq12, kq12, q12a, q12b, q12c⟩ := isOf hZ e11 E_b7
        obtain ⟨v12, _, ⟨T12, L12, k12, n12⟩, -, X12, ⟨Lc12, hQ12, l12, y12, z12⟩, st12⟩ := X11.virtualBack hx (y := (⟨"com/example/framebeat/framebeat/DisplayEvent", "timestampNanos", "()J"⟩ : MethodName)) (z := (⟨"com/example/framebeat/framebeat/DisplayEvent", "timestampNanos", "()J"⟩ : MethodName)) hown (mvT hZ (hw _ (List.mem_of_getElem? (i := 41) rfl))) (mvT hZ (hw _ (List.mem_of_getElem? (i := 42) rfl))) (notFace_of_selects (args := #[]) (mvT hZ (hw _ (List.mem_of_getElem? (i := 44) rfl)))) (mvT hZ (hw _ (List.mem_of_getElem? (i := 44) rfl))) (mvT hZ (hw _ (List.mem_of_getElem? (i := 43) rfl))) (by decide) (backOf (W := 0) (rm6 l Z a0 CX [] b7 x2 T9.heap O F_timestampNanos_b7) hZ (hw _ (List.mem_of_getElem? (i := 45) rfl)) (hw _ (List.mem_of_getElem? (i := 6) rfl)) (by decide) (by decide)) q12a q12c (g := (mkF m 144 #[.val (.int x0), .val (.long x1), .second, .val (.long x2), .second, .val (.long x3), .second, .val (.int x4), .val (.int ((x0 &&& (2147483647 : Int32)) % (3 : Int32))), .val (.int b9), .val (.int b10), .val (.ref w_VSYNC), .val (.long x3), .second, .val (.ref b7), .unset] [(.ref b7)])) rfl (by rw [hml]; rfl) (Steps.refl _) (argsL := []) (rest := []) (lenOf pd_4 rfl) rfl (by show 2 * 0 + _ ≤ _; exact Nat.le_of_eq rfl) (hb hby at_144) (fun _ _ => ⟨rfl, e11, (by decide : 1 + 0 ≤ _), (by decide : 6 + 0 ≤ _)⟩)
        dsimp only [Pt.U, Pt.locs, Pt.cells, Pt.slots] at X12 l12 y12 z12 st12 hQ12
        subst l12 y12 z12
        obtain ⟨rfl, N12q, e12⟩ := hQ12
        have N := Fr.app N N12q
        refine own_tr (T' := T12) (F' := (mkF m 147 #[.val (.int x0), .val (.long x1), .second, .val (.long x2), .second, .val (.long x3), .second, .val (.int x4), .val (.int ((x0 &&& (2147483647 : Int32)) % (3 : Int32))), .val (.int b9), .val (.int b10), .val (.ref w_VSYNC), .val (.long x3), .second, .val (.ref b7), .unset] [(.long x2)])) st12 ?_
        refine own_st (T' := T12) (F' := (mkF m 148 #[.val (.int x0), .val (.long x1), .second, .val (.long x2), .second, .val (.long x3), .second, .val (.int x4), .val (.int ((x0 &&& (2147483647 : Int32)) % (3 : Int32))), .val (.int b9), .val (.int b10), .val (.ref w_VSYNC), .val (.long x3), .second, .val (.ref b7), .unset] [(.long x2), (.long x2)])) (fun t k => XS.lloadN X12.here hx rfl (hb hby at_147) rfl k) ?_
        refine own_st (T' := T12) (F' := (mkF m 149 #[.val (.int x0), .val (.long x1), .second, .val (.long x2), .second, .val (.long x3), .second, .val (.int x4), .val (.int ((x0 &&& (2147483647 : Int32)) % (3 : Int32))), .val (.int b9), .val (.int b10), .val (.ref w_VSYNC), .val (.long x3), .second, .val (.ref b7), .unset] [(.int (lcmpW x2 x2))])) (fun t k => XS.lcmp X12.here hx rfl (hb hby at_148) rfl k) ?_
        refine own_st (T' := T12) (F' := (mkF m 154 #[.val (.int x0), .val (.long x1), .second, .val (.long x2), .second, .val (.long x3), .second, .val (.int x4), .val (.int ((x0 &&& (2147483647 : Int32)) % (3 : Int32))), .val (.int b9), .val (.int b10), .val (.ref w_VSYNC), .val (.long x3), .second, .val (.ref b7), .unset] [])) (fun t k => XS.ifYes X12.here hx rfl (pc0 := 149) (pc' := 154) rfl (hb hby at_149) rfl ((if0 _ _).trans (teq ((lw_eq _ _).mpr rfl)).1) (by decide) (by decide) k) ?_
        refine own_st (T' := T12) (F' := (mkF m 156 #[.val (.int x0), .val (.long x1), .second, .val (.long x2), .second, .val (.long x3), .second, .val (.int x4), .val (.int ((x0 &&& (2147483647 : Int32)) % (3 : Int32))), .val (.int b9), .val (.int b10), .val (.ref w_VSYNC), .val (.long x3), .second, .val (.ref b7), .unset] [(.ref b7)])) (fun t k => XS.aload X12.here hx rfl (hb hby at_154) rfl rfl k) ?_
        obtain ⟨cq13, kq13, q13a, q13b, q13c⟩ := isOf hZ e12 E_b7
        obtain ⟨v13, _, ⟨T13, L13, k13, n13⟩, -, X13, ⟨Lc13, hQ13, l13, y13, z13⟩, st13⟩ := X12.virtualBack hx (y := (⟨"com/example/framebeat/framebeat/DisplayEvent", "isSubstitute", "()Z"⟩ : MethodName)) (z := (⟨"com/example/framebeat/framebeat/DisplayEvent", "isSubstitute", "()Z"⟩ : MethodName)) hown (mvT hZ (hw _ (List.mem_of_getElem? (i := 46) rfl))) (mvT hZ (hw _ (List.mem_of_getElem? (i := 47) rfl))) (notFace_of_selects (args := #[]) (mvT hZ (hw _ (List.mem_of_getElem? (i := 49) rfl)))) (mvT hZ (hw _ (List.mem_of_getElem? (i := 49) rfl))) (mvT hZ (hw _ (List.mem_of_getElem? (i := 48) rfl))) (by decide) (backOf (W := 0) (rm7 l Z a0 CX [] b7 b9 (own_nb hb9) T9.heap O F_substitute_b7) hZ (hw _ (List.mem_of_getElem? (i := 50) rfl)) (hw _ (List.mem_of_getElem? (i := 6) rfl)) (by decide) (by decide)) q13a q13c (g := (mkF m 156 #[.val (.int x0), .val (.long x1), .second, .val (.long x2), .second, .val (.long x3), .second, .val (.int x4), .val (.int ((x0 &&& (2147483647 : Int32)) % (3 : Int32))), .val (.int b9), .val (.int b10), .val (.ref w_VSYNC), .val (.long x3), .second, .val (.ref b7), .unset] [(.ref b7)])) rfl (by rw [hml]; rfl) (Steps.refl _) (argsL := []) (rest := []) (lenOf pd_5 rfl) rfl (by show 2 * 0 + _ ≤ _; exact Nat.le_of_eq rfl) (hb hby at_156) (fun _ _ => ⟨rfl, e12, (by decide : 1 + 0 ≤ _), (by decide : 6 + 0 ≤ _)⟩)
        dsimp only [Pt.U, Pt.locs, Pt.cells, Pt.slots] at X13 l13 y13 z13 st13 hQ13
        subst l13 y13 z13
        obtain ⟨rfl, N13q, e13⟩ := hQ13
        have N := Fr.app N N13q
        refine own_tr (T' := T13) (F' := (mkF m 159 #[.val (.int x0), .val (.long x1), .second, .val (.long x2), .second, .val (.long x3), .second, .val (.int x4), .val (.int ((x0 &&& (2147483647 : Int32)) % (3 : Int32))), .val (.int b9), .val (.int b10), .val (.ref w_VSYNC), .val (.long x3), .second, .val (.ref b7), .unset] [(.int b9)])) st13 ?_
        refine own_st (T' := T13) (F' := (mkF m 161 #[.val (.int x0), .val (.long x1), .second, .val (.long x2), .second, .val (.long x3), .second, .val (.int x4), .val (.int ((x0 &&& (2147483647 : Int32)) % (3 : Int32))), .val (.int b9), .val (.int b10), .val (.ref w_VSYNC), .val (.long x3), .second, .val (.ref b7), .unset] [(.int b9), (.int b9)])) (fun t k => XS.iload X13.here hx rfl (hb hby at_159) rfl k) ?_
        refine own_st (T' := T13) (F' := (mkF m 166 #[.val (.int x0), .val (.long x1), .second, .val (.long x2), .second, .val (.long x3), .second, .val (.int x4), .val (.int ((x0 &&& (2147483647 : Int32)) % (3 : Int32))), .val (.int b9), .val (.int b10), .val (.ref w_VSYNC), .val (.long x3), .second, .val (.ref b7), .unset] [])) (fun t k => XS.icmpYes X13.here hx rfl (pc0 := 161) (pc' := 166) rfl (hb hby at_161) rfl (teq rfl).1 (by decide) (by decide) k) ?_
        refine own_st (T' := T13) (F' := (mkF m 168 #[.val (.int x0), .val (.long x1), .second, .val (.long x2), .second, .val (.long x3), .second, .val (.int x4), .val (.int ((x0 &&& (2147483647 : Int32)) % (3 : Int32))), .val (.int b9), .val (.int b10), .val (.ref w_VSYNC), .val (.long x3), .second, .val (.ref b7), .unset] [(.ref b7)])) (fun t k => XS.aload X13.here hx rfl (hb hby at_166) rfl rfl k) ?_
        obtain ⟨cq14, kq14, q14a, q14b, q14c⟩ := isOf hZ e13 E_b7
        obtain ⟨v14, _, ⟨T14, L14, k14, n14⟩, -, X14, ⟨Lc14, hQ14, l14, y14, z14⟩, st14⟩ := X13.virtualBack hx (y := (⟨"com/example/framebeat/framebeat/DisplayEvent", "isSynthetic", "()Z"⟩ : MethodName)) (z := (⟨"com/example/framebeat/framebeat/DisplayEvent", "isSynthetic", "()Z"⟩ : MethodName)) hown (mvT hZ (hw _ (List.mem_of_getElem? (i := 51) rfl))) (mvT hZ (hw _ (List.mem_of_getElem? (i := 52) rfl))) (notFace_of_selects (args := #[]) (mvT hZ (hw _ (List.mem_of_getElem? (i := 54) rfl)))) (mvT hZ (hw _ (List.mem_of_getElem? (i := 54) rfl))) (mvT hZ (hw _ (List.mem_of_getElem? (i := 53) rfl))) (by decide) (backOf (W := 0) (rm8 l Z a0 CX [] b7 b10 (own_nb hb10) T9.heap O F_synthetic_b7) hZ (hw _ (List.mem_of_getElem? (i := 55) rfl)) (hw _ (List.mem_of_getElem? (i := 6) rfl)) (by decide) (by decide)) q14a q14c (g := (mkF m 168 #[.val (.int x0), .val (.long x1), .second, .val (.long x2), .second, .val (.long x3), .second, .val (.int x4), .val (.int ((x0 &&& (2147483647 : Int32)) % (3 : Int32))), .val (.int b9), .val (.int b10), .val (.ref w_VSYNC), .val (.long x3), .second, .val (.ref b7), .unset] [(.ref b7)])) rfl (by rw [hml]; rfl) (Steps.refl _) (argsL := []) (rest := []) (lenOf pd_5 rfl) rfl (by show 2 * 0 + _ ≤ _; exact Nat.le_of_eq rfl) (hb hby at_168) (fun _ _ => ⟨rfl, e13, (by decide : 1 + 0 ≤ _), (by decide : 6 + 0 ≤ _)⟩)
        dsimp only [Pt.U, Pt.locs, Pt.cells, Pt.slots] at X14 l14 y14 z14 st14 hQ14
        subst l14 y14 z14
        obtain ⟨rfl, N14q, e14⟩ := hQ14
        have N := Fr.app N N14q
        refine own_tr (T' := T14) (F' := (mkF m 171 #[.val (.int x0), .val (.long x1), .second, .val (.long x2), .second, .val (.long x3), .second, .val (.int x4), .val (.int ((x0 &&& (2147483647 : Int32)) % (3 : Int32))), .val (.int b9), .val (.int b10), .val (.ref w_VSYNC), .val (.long x3), .second, .val (.ref b7), .unset] [(.int b10)])) st14 ?_
        refine own_st (T' := T14) (F' := (mkF m 173 #[.val (.int x0), .val (.long x1), .second, .val (.long x2), .second, .val (.long x3), .second, .val (.int x4), .val (.int ((x0 &&& (2147483647 : Int32)) % (3 : Int32))), .val (.int b9), .val (.int b10), .val (.ref w_VSYNC), .val (.long x3), .second, .val (.ref b7), .unset] [(.int b10), (.int b10)])) (fun t k => XS.iload X14.here hx rfl (hb hby at_171) rfl k) ?_
        refine own_st (T' := T14) (F' := (mkF m 178 #[.val (.int x0), .val (.long x1), .second, .val (.long x2), .second, .val (.long x3), .second, .val (.int x4), .val (.int ((x0 &&& (2147483647 : Int32)) % (3 : Int32))), .val (.int b9), .val (.int b10), .val (.ref w_VSYNC), .val (.long x3), .second, .val (.ref b7), .unset] [])) (fun t k => XS.icmpYes X14.here hx rfl (pc0 := 173) (pc' := 178) rfl (hb hby at_173) rfl (teq rfl).1 (by decide) (by decide) k) ?_
        refine own_st (T' := T14) (F' := (mkF m 180 #[.val (.int x0), .val (.long x1), .second, .val (.long x2), .second, .val (.long x3), .second, .val (.int x4), .val (.int ((x0 &&& (2147483647 : Int32)) % (3 : Int32))), .val (.int b9), .val (.int b10), .val (.ref w_VSYNC), .val (.long x3), .second, .val (.ref b7), .unset] [(.int ((x0 &&& (2147483647 : Int32)) % (3 : Int32)))])) (fun t k => XS.iload X14.here hx rfl (hb hby at_178) rfl k) ?_
        refine own_st (T' := T14) (F' := (mkF m 183 #[.val (.int x0), .val (.long x1), .second, .val (.long x2), .second, .val (.long x3), .second, .val (.int x4), .val (.int ((x0 &&& (2147483647 : Int32)) % (3 : Int32))), .val (.int b9), .val (.int b10), .val (.ref w_VSYNC), .val (.long x3), .second, .val (.ref b7), .unset] [])) (fun t k => XS.ifNo X14.here hx rfl (hb hby at_180) rfl ((if0 _ _).trans (teq hc38_5).2) k) ?_
        refine own_st (T' := T14) (F' := (mkF m 185 #[.val (.int x0), .val (.long x1), .second, .val (.long x2), .second, .val (.long x3), .second, .val (.int x4), .val (.int ((x0 &&& (2147483647 : Int32)) % (3 : Int32))), .val (.int b9), .val (.int b10), .val (.ref w_VSYNC), .val (.long x3), .second, .val (.ref b7), .unset] [(.ref b7)])) (fun t k => XS.aload X14.here hx rfl (hb hby at_183) rfl rfl k) ?_
        obtain ⟨cq15, kq15, q15a, q15b, q15c⟩ := isOf hZ e14 E_b7
        obtain ⟨v15, _, ⟨T15, L15, k15, n15⟩, -, X15, hSq15, hgr15, ⟨Lc15, hQ15, l15, y15, z15⟩, st15⟩ := X14.virtualBackS hx (y := (⟨"com/example/framebeat/framebeat/DisplayEvent", "count", "()J"⟩ : MethodName)) (z := (⟨"com/example/framebeat/framebeat/DisplayEvent", "count", "()J"⟩ : MethodName)) hown (mvT hZ (hw _ (List.mem_of_getElem? (i := 56) rfl))) (mvT hZ (hw _ (List.mem_of_getElem? (i := 57) rfl))) (notFace_of_selects (args := #[]) (mvT hZ (hw _ (List.mem_of_getElem? (i := 59) rfl)))) (mvT hZ (hw _ (List.mem_of_getElem? (i := 59) rfl))) (mvT hZ (hw _ (List.mem_of_getElem? (i := 58) rfl))) (by decide) (backOfS (W := 0) (rm9 l Z a0 CX [] b7 x3 T9.heap O E_b7 F_kind_b7 F_value_b7) hZ (hw _ (List.mem_of_getElem? (i := 60) rfl)) (hw _ (List.mem_of_getElem? (i := 6) rfl)) (by decide) (by decide)) q15a q15c (g := (mkF m 185 #[.val (.int x0), .val (.long x1), .second, .val (.long x2), .second, .val (.long x3), .second, .val (.int x4), .val (.int ((x0 &&& (2147483647 : Int32)) % (3 : Int32))), .val (.int b9), .val (.int b10), .val (.ref w_VSYNC), .val (.long x3), .second, .val (.ref b7), .unset] [(.ref b7)])) rfl (by rw [hml]; rfl) (Steps.refl _) (argsL := []) (rest := []) (lenOf pd_4 rfl) rfl (by show 2 * 0 + _ ≤ _; exact Nat.le_of_eq rfl) (hb hby at_185) (fun _ _ => ⟨rfl, e14, (by decide : 1 + 2 ≤ _), (by decide : 6 + 24 ≤ _)⟩)
        dsimp only [Pt.U, Pt.locs, Pt.cells, Pt.slots] at X15 l15 y15 z15 st15 hQ15 hSq15 hgr15
        subst l15 y15 z15
        have hS := foldS hS (by rw [e14]; exact hk) hSq15 hgr15
        have hk : T15.heap.size ≤ T15.heap.size := Nat.le_refl _
        have hZ : Z.Warmed39 (s.setVm T15.vm).vm := State.Warmed39.trans (t := (s.setVm s.vm)) hZ hSq15.1
        have hown : (s.setVm T15.vm).vm.findClass "com/example/framebeat/framebeat/DisplayEventSetPinLaw" = some m.cls := by show T15.vm.findClass _ = _; rw [hSq15.1.alike.findClass]; exact hown
        have X15 : Stand p l e room_1 (s.setVm T15.vm) m #[(.int x0), (.long x1), (.long x2), (.long x3), (.int x4)] below meth c T15 _ _ _ := X15
        obtain ⟨rfl, N15q, E15⟩ := hQ15
        have N := Fr.app N N15q
        have E_b7 := E_b7.ext E15
        have F_kind_b7 := F_kind_b7.ext E15
        have F_displayId_b7 := F_displayId_b7.ext E15
        have F_timestampNanos_b7 := F_timestampNanos_b7.ext E15
        have F_value_b7 := F_value_b7.ext E15
        have F_substitute_b7 := F_substitute_b7.ext E15
        have F_synthetic_b7 := F_synthetic_b7.ext E15
        have O := own_ext_trans O E15
        refine own_tr (T' := T15) (F' := (mkF m 188 #[.val (.int x0), .val (.long x1), .second, .val (.long x2), .second, .val (.long x3), .second, .val (.int x4), .val (.int ((x0 &&& (2147483647 : Int32)) % (3 : Int32))), .val (.int b9), .val (.int b10), .val (.ref w_VSYNC), .val (.long x3), .second, .val (.ref b7), .unset] [(.long x3)])) st15 ?_
        refine own_st (T' := T15) (F' := (mkF m 190 #[.val (.int x0), .val (.long x1), .second, .val (.long x2), .second, .val (.long x3), .second, .val (.int x4), .val (.int ((x0 &&& (2147483647 : Int32)) % (3 : Int32))), .val (.int b9), .val (.int b10), .val (.ref w_VSYNC), .val (.long x3), .second, .val (.ref b7), .unset] [(.long x3), (.long x3)])) (fun t k => XS.lload X15.here hx rfl (hb hby at_188) rfl k) ?_
        refine own_st (T' := T15) (F' := (mkF m 191 #[.val (.int x0), .val (.long x1), .second, .val (.long x2), .second, .val (.long x3), .second, .val (.int x4), .val (.int ((x0 &&& (2147483647 : Int32)) % (3 : Int32))), .val (.int b9), .val (.int b10), .val (.ref w_VSYNC), .val (.long x3), .second, .val (.ref b7), .unset] [(.int (lcmpW x3 x3))])) (fun t k => XS.lcmp X15.here hx rfl (hb hby at_190) rfl k) ?_
        refine own_st (T' := T15) (F' := (mkF m 194 #[.val (.int x0), .val (.long x1), .second, .val (.long x2), .second, .val (.long x3), .second, .val (.int x4), .val (.int ((x0 &&& (2147483647 : Int32)) % (3 : Int32))), .val (.int b9), .val (.int b10), .val (.ref w_VSYNC), .val (.long x3), .second, .val (.ref b7), .unset] [])) (fun t k => XS.ifNo X15.here hx rfl (hb hby at_191) rfl ((if0 _ _).trans (teq ((lw_eq _ _).mpr rfl)).2) k) ?_
        refine own_st (T' := T15) (F' := (mkF m 195 #[.val (.int x0), .val (.long x1), .second, .val (.long x2), .second, .val (.long x3), .second, .val (.int x4), .val (.int ((x0 &&& (2147483647 : Int32)) % (3 : Int32))), .val (.int b9), .val (.int b10), .val (.ref w_VSYNC), .val (.long x3), .second, .val (.ref b7), .unset] [(.int (1 : Int32))])) (fun t k => XS.iconst X15.here hx rfl (hb hby at_194) k) ?_
        refine own_st (T' := T15) (F' := (mkF m 199 #[.val (.int x0), .val (.long x1), .second, .val (.long x2), .second, .val (.long x3), .second, .val (.int x4), .val (.int ((x0 &&& (2147483647 : Int32)) % (3 : Int32))), .val (.int b9), .val (.int b10), .val (.ref w_VSYNC), .val (.long x3), .second, .val (.ref b7), .unset] [(.int (1 : Int32))])) (fun t k => XS.goto X15.here hx rfl (pc0 := 195) (pc' := 199) rfl (hb hby at_195) (by decide) (by decide) k) ?_
        refine own_st (T' := T15) (F' := (mkF m 201 #[.val (.int x0), .val (.long x1), .second, .val (.long x2), .second, .val (.long x3), .second, .val (.int x4), .val (.int ((x0 &&& (2147483647 : Int32)) % (3 : Int32))), .val (.int b9), .val (.int b10), .val (.ref w_VSYNC), .val (.long x3), .second, .val (.ref b7), .val (.int (1 : Int32))] [])) (fun t k => XS.istore X15.here hx rfl (hb hby at_199) rfl (l' := #[.val (.int x0), .val (.long x1), .second, .val (.long x2), .second, .val (.long x3), .second, .val (.int x4), .val (.int ((x0 &&& (2147483647 : Int32)) % (3 : Int32))), .val (.int b9), .val (.int b10), .val (.ref w_VSYNC), .val (.long x3), .second, .val (.ref b7), .val (.int (1 : Int32))]) rfl k) ?_
        refine own_st (T' := T15) (F' := (mkF m 260 #[.val (.int x0), .val (.long x1), .second, .val (.long x2), .second, .val (.long x3), .second, .val (.int x4), .val (.int ((x0 &&& (2147483647 : Int32)) % (3 : Int32))), .val (.int b9), .val (.int b10), .val (.ref w_VSYNC), .val (.long x3), .second, .val (.ref b7), .val (.int (1 : Int32))] [])) (fun t k => XS.goto X15.here hx rfl (pc0 := 201) (pc' := 260) rfl (hb hby at_201) (by decide) (by decide) k) ?_
        refine own_st (T' := T15) (F' := (mkF m 262 #[.val (.int x0), .val (.long x1), .second, .val (.long x2), .second, .val (.long x3), .second, .val (.int x4), .val (.int ((x0 &&& (2147483647 : Int32)) % (3 : Int32))), .val (.int b9), .val (.int b10), .val (.ref w_VSYNC), .val (.long x3), .second, .val (.ref b7), .val (.int (1 : Int32))] [(.int (1 : Int32))])) (fun t k => XS.iload X15.here hx rfl (hb hby at_260) rfl k) ?_
        exact own_retNW X15 hx (t := .boolean) Bd.returns (by simp) (by decide) hS hk (hb hby at_262) hlk (⟨rfl, N⟩) (by decide) (by decide)
      · refine own_st (T' := T4) (F' := (mkF m 53 #[.val (.int x0), .val (.long x1), .second, .val (.long x2), .second, .val (.long x3), .second, .val (.int x4), .val (.int ((x0 &&& (2147483647 : Int32)) % (3 : Int32))), .val (.int b9), .val (.int b10), .unset, .unset, .unset, .unset, .unset] [])) (fun t k => XS.ifYes X4.here hx rfl (pc0 := 38) (pc' := 53) rfl (hb hby at_38) rfl ((if0 _ _).trans (feq hc38_5).2) (by decide) (by decide) k) ?_
        refine own_st (T' := T4) (F' := (mkF m 55 #[.val (.int x0), .val (.long x1), .second, .val (.long x2), .second, .val (.long x3), .second, .val (.int x4), .val (.int ((x0 &&& (2147483647 : Int32)) % (3 : Int32))), .val (.int b9), .val (.int b10), .unset, .unset, .unset, .unset, .unset] [(.int ((x0 &&& (2147483647 : Int32)) % (3 : Int32)))])) (fun t k => XS.iload X4.here hx rfl (hb hby at_53) rfl k) ?_
        refine own_st (T' := T4) (F' := (mkF m 56 #[.val (.int x0), .val (.long x1), .second, .val (.long x2), .second, .val (.long x3), .second, .val (.int x4), .val (.int ((x0 &&& (2147483647 : Int32)) % (3 : Int32))), .val (.int b9), .val (.int b10), .unset, .unset, .unset, .unset, .unset] [(.int (1 : Int32)), (.int ((x0 &&& (2147483647 : Int32)) % (3 : Int32)))])) (fun t k => XS.iconst X4.here hx rfl (hb hby at_55) k) ?_
        by_cases hc56_16 : ((x0 &&& (2147483647 : Int32)) % (3 : Int32)) = (1 : Int32)
        · refine own_st (T' := T4) (F' := (mkF m 59 #[.val (.int x0), .val (.long x1), .second, .val (.long x2), .second, .val (.long x3), .second, .val (.int x4), .val (.int ((x0 &&& (2147483647 : Int32)) % (3 : Int32))), .val (.int b9), .val (.int b10), .unset, .unset, .unset, .unset, .unset] [])) (fun t k => XS.icmpNo X4.here hx rfl (hb hby at_56) rfl (teq hc56_16).2 k) ?_
          obtain ⟨T17, X17, e17, st17⟩ := getS2 X4 hx hZ hown (host := "") (Or.inl (hw _ (List.mem_of_getElem? (i := 73) rfl))) Via.refl e4 (S_HOTPLUG.ext O) (g := (mkF m 59 #[.val (.int x0), .val (.long x1), .second, .val (.long x2), .second, .val (.long x3), .second, .val (.int x4), .val (.int ((x0 &&& (2147483647 : Int32)) % (3 : Int32))), .val (.int b9), .val (.int b10), .unset, .unset, .unset, .unset, .unset] [])) rfl (hb hby at_59)
          refine own_st (T' := T17) (F' := (mkF m 62 #[.val (.int x0), .val (.long x1), .second, .val (.long x2), .second, .val (.long x3), .second, .val (.int x4), .val (.int ((x0 &&& (2147483647 : Int32)) % (3 : Int32))), .val (.int b9), .val (.int b10), .unset, .unset, .unset, .unset, .unset] [(.ref w_HOTPLUG)])) st17 ?_
          refine own_st (T' := T17) (F' := (mkF m 64 #[.val (.int x0), .val (.long x1), .second, .val (.long x2), .second, .val (.long x3), .second, .val (.int x4), .val (.int ((x0 &&& (2147483647 : Int32)) % (3 : Int32))), .val (.int b9), .val (.int b10), .val (.ref w_HOTPLUG), .unset, .unset, .unset, .unset] [])) (fun t k => XS.astore X17.here hx rfl (hb hby at_62) rfl rfl (l' := #[.val (.int x0), .val (.long x1), .second, .val (.long x2), .second, .val (.long x3), .second, .val (.int x4), .val (.int ((x0 &&& (2147483647 : Int32)) % (3 : Int32))), .val (.int b9), .val (.int b10), .val (.ref w_HOTPLUG), .unset, .unset, .unset, .unset]) rfl k) ?_
          refine own_st (T' := T17) (F' := (mkF m 66 #[.val (.int x0), .val (.long x1), .second, .val (.long x2), .second, .val (.long x3), .second, .val (.int x4), .val (.int ((x0 &&& (2147483647 : Int32)) % (3 : Int32))), .val (.int b9), .val (.int b10), .val (.ref w_HOTPLUG), .unset, .unset, .unset, .unset] [(.long x3)])) (fun t k => XS.lload X17.here hx rfl (hb hby at_64) rfl k) ?_
          refine own_st (T' := T17) (F' := (mkF m 67 #[.val (.int x0), .val (.long x1), .second, .val (.long x2), .second, .val (.long x3), .second, .val (.int x4), .val (.int ((x0 &&& (2147483647 : Int32)) % (3 : Int32))), .val (.int b9), .val (.int b10), .val (.ref w_HOTPLUG), .unset, .unset, .unset, .unset] [(.long (1 : Int64)), (.long x3)])) (fun t k => XS.lconst X17.here hx rfl (hb hby at_66) k) ?_
          refine own_st (T' := T17) (F' := (mkF m 68 #[.val (.int x0), .val (.long x1), .second, .val (.long x2), .second, .val (.long x3), .second, .val (.int x4), .val (.int ((x0 &&& (2147483647 : Int32)) % (3 : Int32))), .val (.int b9), .val (.int b10), .val (.ref w_HOTPLUG), .unset, .unset, .unset, .unset] [(.long (x3 &&& (1 : Int64)))])) (fun t k => XS.land X17.here hx rfl (hb hby at_67) rfl k) ?_
          refine own_st (T' := T17) (F' := (mkF m 70 #[.val (.int x0), .val (.long x1), .second, .val (.long x2), .second, .val (.long x3), .second, .val (.int x4), .val (.int ((x0 &&& (2147483647 : Int32)) % (3 : Int32))), .val (.int b9), .val (.int b10), .val (.ref w_HOTPLUG), .val (.long (x3 &&& (1 : Int64))), .second, .unset, .unset] [])) (fun t k => XS.lstore X17.here hx rfl (hb hby at_68) rfl (l' := #[.val (.int x0), .val (.long x1), .second, .val (.long x2), .second, .val (.long x3), .second, .val (.int x4), .val (.int ((x0 &&& (2147483647 : Int32)) % (3 : Int32))), .val (.int b9), .val (.int b10), .val (.ref w_HOTPLUG), .val (.long (x3 &&& (1 : Int64))), .second, .unset, .unset]) rfl k) ?_
          refine own_st (T' := T17) (F' := (mkF m 71 #[.val (.int x0), .val (.long x1), .second, .val (.long x2), .second, .val (.long x3), .second, .val (.int x4), .val (.int ((x0 &&& (2147483647 : Int32)) % (3 : Int32))), .val (.int b9), .val (.int b10), .val (.ref w_HOTPLUG), .val (.long (x3 &&& (1 : Int64))), .second, .unset, .unset] [(.int (0 : Int32))])) (fun t k => XS.iconst X17.here hx rfl (hb hby at_70) k) ?_
          refine own_st (T' := T17) (F' := (mkF m 73 #[.val (.int x0), .val (.long x1), .second, .val (.long x2), .second, .val (.long x3), .second, .val (.int x4), .val (.int ((x0 &&& (2147483647 : Int32)) % (3 : Int32))), .val (.int (0 : Int32)), .val (.int b10), .val (.ref w_HOTPLUG), .val (.long (x3 &&& (1 : Int64))), .second, .unset, .unset] [])) (fun t k => XS.istore X17.here hx rfl (hb hby at_71) rfl (l' := #[.val (.int x0), .val (.long x1), .second, .val (.long x2), .second, .val (.long x3), .second, .val (.int x4), .val (.int ((x0 &&& (2147483647 : Int32)) % (3 : Int32))), .val (.int (0 : Int32)), .val (.int b10), .val (.ref w_HOTPLUG), .val (.long (x3 &&& (1 : Int64))), .second, .unset, .unset]) rfl k) ?_
          refine own_st (T' := T17) (F' := (mkF m 74 #[.val (.int x0), .val (.long x1), .second, .val (.long x2), .second, .val (.long x3), .second, .val (.int x4), .val (.int ((x0 &&& (2147483647 : Int32)) % (3 : Int32))), .val (.int (0 : Int32)), .val (.int b10), .val (.ref w_HOTPLUG), .val (.long (x3 &&& (1 : Int64))), .second, .unset, .unset] [(.int (0 : Int32))])) (fun t k => XS.iconst X17.here hx rfl (hb hby at_73) k) ?_
          refine own_st (T' := T17) (F' := (mkF m 76 #[.val (.int x0), .val (.long x1), .second, .val (.long x2), .second, .val (.long x3), .second, .val (.int x4), .val (.int ((x0 &&& (2147483647 : Int32)) % (3 : Int32))), .val (.int (0 : Int32)), .val (.int (0 : Int32)), .val (.ref w_HOTPLUG), .val (.long (x3 &&& (1 : Int64))), .second, .unset, .unset] [])) (fun t k => XS.istore X17.here hx rfl (hb hby at_74) rfl (l' := #[.val (.int x0), .val (.long x1), .second, .val (.long x2), .second, .val (.long x3), .second, .val (.int x4), .val (.int ((x0 &&& (2147483647 : Int32)) % (3 : Int32))), .val (.int (0 : Int32)), .val (.int (0 : Int32)), .val (.ref w_HOTPLUG), .val (.long (x3 &&& (1 : Int64))), .second, .unset, .unset]) rfl k) ?_
          refine own_st (T' := T17) (F' := (mkF m 94 #[.val (.int x0), .val (.long x1), .second, .val (.long x2), .second, .val (.long x3), .second, .val (.int x4), .val (.int ((x0 &&& (2147483647 : Int32)) % (3 : Int32))), .val (.int (0 : Int32)), .val (.int (0 : Int32)), .val (.ref w_HOTPLUG), .val (.long (x3 &&& (1 : Int64))), .second, .unset, .unset] [])) (fun t k => XS.goto X17.here hx rfl (pc0 := 76) (pc' := 94) rfl (hb hby at_76) (by decide) (by decide) k) ?_
          obtain ⟨T18, h18, X18, e18, E18, A18, D18, U18, st18⟩ := newO X17 hx hZ hown (hw _ (List.mem_of_getElem? (i := 4) rfl)) (hw _ (List.mem_of_getElem? (i := 5) rfl)) (hw _ (List.mem_of_getElem? (i := 6) rfl)) e17 (g := (mkF m 94 #[.val (.int x0), .val (.long x1), .second, .val (.long x2), .second, .val (.long x3), .second, .val (.int x4), .val (.int ((x0 &&& (2147483647 : Int32)) % (3 : Int32))), .val (.int (0 : Int32)), .val (.int (0 : Int32)), .val (.ref w_HOTPLUG), .val (.long (x3 &&& (1 : Int64))), .second, .unset, .unset] [])) rfl (hb hby at_94) (by decide) (by decide)
          obtain ⟨b18, g18⟩ : ∃ z, z = h0.size := ⟨_, rfl⟩
          rw [← g18] at A18 D18 U18 st18
          have g_b18 : Z.heap.size ≤ b18 := Nat.le_trans O.1 (Nat.le_of_eq g18.symm)
          have O := own_ext_trans O E18
          have hk := Nat.le_trans hk E18.1
          have E_b18 := A18
          have F_kind_b18 : Fld Z h18 b18 "com/example/framebeat/framebeat/DisplayEvent" "kind" "Lcom/example/framebeat/framebeat/DisplayEvent$Kind;" .null := D18 (Or.inl (hw _ (List.mem_of_getElem? (i := 15) rfl))) (ty := (.object "com/example/framebeat/framebeat/DisplayEvent$Kind")) (by decide)
          have F_displayId_b18 : Fld Z h18 b18 "com/example/framebeat/framebeat/DisplayEvent" "displayId" "J" (.long (0 : Int64)) := D18 (Or.inl (hw _ (List.mem_of_getElem? (i := 22) rfl))) (ty := .long) (by decide)
          have F_timestampNanos_b18 : Fld Z h18 b18 "com/example/framebeat/framebeat/DisplayEvent" "timestampNanos" "J" (.long (0 : Int64)) := D18 (Or.inl (hw _ (List.mem_of_getElem? (i := 24) rfl))) (ty := .long) (by decide)
          have F_value_b18 : Fld Z h18 b18 "com/example/framebeat/framebeat/DisplayEvent" "value" "J" (.long (0 : Int64)) := D18 (Or.inl (hw _ (List.mem_of_getElem? (i := 26) rfl))) (ty := .long) (by decide)
          have F_substitute_b18 : Fld Z h18 b18 "com/example/framebeat/framebeat/DisplayEvent" "substitute" "Z" (.int (0 : Int32)) := D18 (Or.inl (hw _ (List.mem_of_getElem? (i := 28) rfl))) (ty := .boolean) (by decide)
          have F_synthetic_b18 : Fld Z h18 b18 "com/example/framebeat/framebeat/DisplayEvent" "synthetic" "Z" (.int (0 : Int32)) := D18 (Or.inl (hw _ (List.mem_of_getElem? (i := 30) rfl))) (ty := .boolean) (by decide)
          refine own_st (T' := T18) (F' := (mkF m 97 #[.val (.int x0), .val (.long x1), .second, .val (.long x2), .second, .val (.long x3), .second, .val (.int x4), .val (.int ((x0 &&& (2147483647 : Int32)) % (3 : Int32))), .val (.int (0 : Int32)), .val (.int (0 : Int32)), .val (.ref w_HOTPLUG), .val (.long (x3 &&& (1 : Int64))), .second, .unset, .unset] [(.ref b18)])) st18 ?_
          refine own_st (T' := T18) (F' := (mkF m 98 #[.val (.int x0), .val (.long x1), .second, .val (.long x2), .second, .val (.long x3), .second, .val (.int x4), .val (.int ((x0 &&& (2147483647 : Int32)) % (3 : Int32))), .val (.int (0 : Int32)), .val (.int (0 : Int32)), .val (.ref w_HOTPLUG), .val (.long (x3 &&& (1 : Int64))), .second, .unset, .unset] [(.ref b18), (.ref b18)])) (fun t k => XS.dup X18.here hx rfl (hb hby at_97) rfl rfl k) ?_
          obtain ⟨v19, _, ⟨T19, L19, k19, n19⟩, -, X19, ⟨Lc19, hQ19, l19, y19, z19⟩, st19⟩ := X18.specialBack hx (y := (⟨"com/example/framebeat/framebeat/DisplayEvent", "<init>", "()V"⟩ : MethodName)) rfl hown (mvT hZ (hw _ (List.mem_of_getElem? (i := 7) rfl))) (mvT hZ (hw _ (List.mem_of_getElem? (i := 8) rfl))) (mvT hZ (hw _ (List.mem_of_getElem? (i := 9) rfl))) (by decide) (backOf (W := 1) (rm1 l Z a0 CX [] b18 .null rfl (0 : Int64) (0 : Int64) (0 : Int64) (0 : Int32) (Or.inl rfl) (0 : Int32) (Or.inl rfl) h18 O E_b18 g_b18 F_kind_b18 F_displayId_b18 F_timestampNanos_b18 F_value_b18 F_substitute_b18 F_synthetic_b18) hZ (hw _ (List.mem_of_getElem? (i := 9) rfl)) (hw _ (List.mem_of_getElem? (i := 6) rfl)) (by decide) (by decide)) (g := (mkF m 98 #[.val (.int x0), .val (.long x1), .second, .val (.long x2), .second, .val (.long x3), .second, .val (.int x4), .val (.int ((x0 &&& (2147483647 : Int32)) % (3 : Int32))), .val (.int (0 : Int32)), .val (.int (0 : Int32)), .val (.ref w_HOTPLUG), .val (.long (x3 &&& (1 : Int64))), .second, .unset, .unset] [(.ref b18), (.ref b18)])) rfl (by rw [hml]; rfl) (Steps.refl _) (a := b18) (argsL := []) (rest := [(.ref b18)]) (lenOf pd_1 rfl) rfl (by show 2 * 0 + _ ≤ _; exact Nat.le_of_eq rfl) (hb hby at_98) (fun _ _ => ⟨rfl, e18, (by decide : 1 + 0 ≤ _), (by decide : 6 + 0 ≤ _)⟩)
          dsimp only [Pt.U, Pt.locs, Pt.cells, Pt.slots] at X19 l19 y19 z19 st19 hQ19
          subst l19 y19 z19
          obtain ⟨rfl, N19q, K19, F_kind_b18, F_displayId_b18, F_timestampNanos_b18, F_value_b18, F_substitute_b18, F_synthetic_b18⟩ := hQ19
          have N := Fr.app N N19q
          have E_b18 := E_b18.keep K19
          have O := own_O_keep O K19 (allS g_b18 all0)
          have hk := Nat.le_trans hk K19.1
          refine own_tr (T' := T19) (F' := (mkF m 101 #[.val (.int x0), .val (.long x1), .second, .val (.long x2), .second, .val (.long x3), .second, .val (.int x4), .val (.int ((x0 &&& (2147483647 : Int32)) % (3 : Int32))), .val (.int (0 : Int32)), .val (.int (0 : Int32)), .val (.ref w_HOTPLUG), .val (.long (x3 &&& (1 : Int64))), .second, .unset, .unset] [(.ref b18)])) st19 ?_
          refine own_st (T' := T19) (F' := (mkF m 103 #[.val (.int x0), .val (.long x1), .second, .val (.long x2), .second, .val (.long x3), .second, .val (.int x4), .val (.int ((x0 &&& (2147483647 : Int32)) % (3 : Int32))), .val (.int (0 : Int32)), .val (.int (0 : Int32)), .val (.ref w_HOTPLUG), .val (.long (x3 &&& (1 : Int64))), .second, .val (.ref b18), .unset] [])) (fun t k => XS.astore X19.here hx rfl (hb hby at_101) rfl rfl (l' := #[.val (.int x0), .val (.long x1), .second, .val (.long x2), .second, .val (.long x3), .second, .val (.int x4), .val (.int ((x0 &&& (2147483647 : Int32)) % (3 : Int32))), .val (.int (0 : Int32)), .val (.int (0 : Int32)), .val (.ref w_HOTPLUG), .val (.long (x3 &&& (1 : Int64))), .second, .val (.ref b18), .unset]) rfl k) ?_
          refine own_st (T' := T19) (F' := (mkF m 105 #[.val (.int x0), .val (.long x1), .second, .val (.long x2), .second, .val (.long x3), .second, .val (.int x4), .val (.int ((x0 &&& (2147483647 : Int32)) % (3 : Int32))), .val (.int (0 : Int32)), .val (.int (0 : Int32)), .val (.ref w_HOTPLUG), .val (.long (x3 &&& (1 : Int64))), .second, .val (.ref b18), .unset] [(.ref b18)])) (fun t k => XS.aload X19.here hx rfl (hb hby at_103) rfl rfl k) ?_
          refine own_st (T' := T19) (F' := (mkF m 107 #[.val (.int x0), .val (.long x1), .second, .val (.long x2), .second, .val (.long x3), .second, .val (.int x4), .val (.int ((x0 &&& (2147483647 : Int32)) % (3 : Int32))), .val (.int (0 : Int32)), .val (.int (0 : Int32)), .val (.ref w_HOTPLUG), .val (.long (x3 &&& (1 : Int64))), .second, .val (.ref b18), .unset] [(.ref w_HOTPLUG), (.ref b18)])) (fun t k => XS.aload X19.here hx rfl (hb hby at_105) rfl rfl k) ?_
          refine own_st (T' := T19) (F' := (mkF m 108 #[.val (.int x0), .val (.long x1), .second, .val (.long x2), .second, .val (.long x3), .second, .val (.int x4), .val (.int ((x0 &&& (2147483647 : Int32)) % (3 : Int32))), .val (.int (0 : Int32)), .val (.int (0 : Int32)), .val (.ref w_HOTPLUG), .val (.long (x3 &&& (1 : Int64))), .second, .val (.ref b18), .unset] [(.long x1), (.ref w_HOTPLUG), (.ref b18)])) (fun t k => XS.lloadN X19.here hx rfl (hb hby at_107) rfl k) ?_
          refine own_st (T' := T19) (F' := (mkF m 109 #[.val (.int x0), .val (.long x1), .second, .val (.long x2), .second, .val (.long x3), .second, .val (.int x4), .val (.int ((x0 &&& (2147483647 : Int32)) % (3 : Int32))), .val (.int (0 : Int32)), .val (.int (0 : Int32)), .val (.ref w_HOTPLUG), .val (.long (x3 &&& (1 : Int64))), .second, .val (.ref b18), .unset] [(.long x2), (.long x1), (.ref w_HOTPLUG), (.ref b18)])) (fun t k => XS.lloadN X19.here hx rfl (hb hby at_108) rfl k) ?_
          refine own_st (T' := T19) (F' := (mkF m 111 #[.val (.int x0), .val (.long x1), .second, .val (.long x2), .second, .val (.long x3), .second, .val (.int x4), .val (.int ((x0 &&& (2147483647 : Int32)) % (3 : Int32))), .val (.int (0 : Int32)), .val (.int (0 : Int32)), .val (.ref w_HOTPLUG), .val (.long (x3 &&& (1 : Int64))), .second, .val (.ref b18), .unset] [(.long (x3 &&& (1 : Int64))), (.long x2), (.long x1), (.ref w_HOTPLUG), (.ref b18)])) (fun t k => XS.lload X19.here hx rfl (hb hby at_109) rfl k) ?_
          refine own_st (T' := T19) (F' := (mkF m 113 #[.val (.int x0), .val (.long x1), .second, .val (.long x2), .second, .val (.long x3), .second, .val (.int x4), .val (.int ((x0 &&& (2147483647 : Int32)) % (3 : Int32))), .val (.int (0 : Int32)), .val (.int (0 : Int32)), .val (.ref w_HOTPLUG), .val (.long (x3 &&& (1 : Int64))), .second, .val (.ref b18), .unset] [(.int (0 : Int32)), (.long (x3 &&& (1 : Int64))), (.long x2), (.long x1), (.ref w_HOTPLUG), (.ref b18)])) (fun t k => XS.iload X19.here hx rfl (hb hby at_111) rfl k) ?_
          refine own_st (T' := T19) (F' := (mkF m 115 #[.val (.int x0), .val (.long x1), .second, .val (.long x2), .second, .val (.long x3), .second, .val (.int x4), .val (.int ((x0 &&& (2147483647 : Int32)) % (3 : Int32))), .val (.int (0 : Int32)), .val (.int (0 : Int32)), .val (.ref w_HOTPLUG), .val (.long (x3 &&& (1 : Int64))), .second, .val (.ref b18), .unset] [(.int (0 : Int32)), (.int (0 : Int32)), (.long (x3 &&& (1 : Int64))), (.long x2), (.long x1), (.ref w_HOTPLUG), (.ref b18)])) (fun t k => XS.iload X19.here hx rfl (hb hby at_113) rfl k) ?_
          obtain ⟨cq20, kq20, q20a, q20b, q20c⟩ := isOf hZ rfl E_b18
          obtain ⟨v20, _, ⟨T20, L20, k20, n20⟩, -, X20, ⟨Lc20, hQ20, l20, y20, z20⟩, st20⟩ := X19.virtualBack hx (y := (⟨"com/example/framebeat/framebeat/DisplayEvent", "set", "(Lcom/example/framebeat/framebeat/DisplayEvent$Kind;JJJZZ)V"⟩ : MethodName)) (z := (⟨"com/example/framebeat/framebeat/DisplayEvent", "set", "(Lcom/example/framebeat/framebeat/DisplayEvent$Kind;JJJZZ)V"⟩ : MethodName)) hown (mvT hZ (hw _ (List.mem_of_getElem? (i := 16) rfl))) (mvT hZ (hw _ (List.mem_of_getElem? (i := 17) rfl))) (notFace_of_selects (args := #[]) (mvT hZ (hw _ (List.mem_of_getElem? (i := 19) rfl)))) (mvT hZ (hw _ (List.mem_of_getElem? (i := 19) rfl))) (mvT hZ (hw _ (List.mem_of_getElem? (i := 18) rfl))) (by decide) (backOf (W := 0) (rm3 l Z a0 CX [] b18 (.ref w_HOTPLUG) rfl x1 x2 (x3 &&& (1 : Int64)) (0 : Int32) (Or.inl rfl) (0 : Int32) (Or.inl rfl) (.ref w_VSYNC) rfl (0 : Int64) (0 : Int64) (0 : Int64) (0 : Int32) (Or.inl rfl) (0 : Int32) (Or.inl rfl) T19.heap O E_b18 g_b18 F_kind_b18 F_displayId_b18 F_timestampNanos_b18 F_value_b18 F_substitute_b18 F_synthetic_b18) hZ (hw _ (List.mem_of_getElem? (i := 20) rfl)) (hw _ (List.mem_of_getElem? (i := 6) rfl)) (by decide) (by decide)) q20a q20c (g := (mkF m 115 #[.val (.int x0), .val (.long x1), .second, .val (.long x2), .second, .val (.long x3), .second, .val (.int x4), .val (.int ((x0 &&& (2147483647 : Int32)) % (3 : Int32))), .val (.int (0 : Int32)), .val (.int (0 : Int32)), .val (.ref w_HOTPLUG), .val (.long (x3 &&& (1 : Int64))), .second, .val (.ref b18), .unset] [(.int (0 : Int32)), (.int (0 : Int32)), (.long (x3 &&& (1 : Int64))), (.long x2), (.long x1), (.ref w_HOTPLUG), (.ref b18)])) rfl (by rw [hml]; rfl) (Steps.refl _) (argsL := [(.ref w_HOTPLUG), (.long x1), (.long x2), (.long (x3 &&& (1 : Int64))), (.int (0 : Int32)), (.int (0 : Int32))]) (rest := []) (lenOf pd_2 rfl) rfl (by show 2 * 0 + _ ≤ _; exact Nat.le_of_eq rfl) (hb hby at_115) (fun _ _ => ⟨rfl, rfl, (by decide : 1 + 0 ≤ _), (by decide : 6 + 0 ≤ _)⟩)
          dsimp only [Pt.U, Pt.locs, Pt.cells, Pt.slots] at X20 l20 y20 z20 st20 hQ20
          subst l20 y20 z20
          obtain ⟨rfl, N20q, K20, F_kind_b18, F_displayId_b18, F_timestampNanos_b18, F_value_b18, F_substitute_b18, F_synthetic_b18⟩ := hQ20
          have N := Fr.app N N20q
          have E_b18 := E_b18.keep K20
          have O := own_O_keep O K20 (allS g_b18 all0)
          have hk := Nat.le_trans hk K20.1
          refine own_tr (T' := T20) (F' := (mkF m 118 #[.val (.int x0), .val (.long x1), .second, .val (.long x2), .second, .val (.long x3), .second, .val (.int x4), .val (.int ((x0 &&& (2147483647 : Int32)) % (3 : Int32))), .val (.int (0 : Int32)), .val (.int (0 : Int32)), .val (.ref w_HOTPLUG), .val (.long (x3 &&& (1 : Int64))), .second, .val (.ref b18), .unset] [])) st20 ?_
          refine own_st (T' := T20) (F' := (mkF m 120 #[.val (.int x0), .val (.long x1), .second, .val (.long x2), .second, .val (.long x3), .second, .val (.int x4), .val (.int ((x0 &&& (2147483647 : Int32)) % (3 : Int32))), .val (.int (0 : Int32)), .val (.int (0 : Int32)), .val (.ref w_HOTPLUG), .val (.long (x3 &&& (1 : Int64))), .second, .val (.ref b18), .unset] [(.ref b18)])) (fun t k => XS.aload X20.here hx rfl (hb hby at_118) rfl rfl k) ?_
          obtain ⟨cq21, kq21, q21a, q21b, q21c⟩ := isOf hZ rfl E_b18
          obtain ⟨v21, _, ⟨T21, L21, k21, n21⟩, -, X21, ⟨Lc21, hQ21, l21, y21, z21⟩, st21⟩ := X20.virtualBack hx (y := (⟨"com/example/framebeat/framebeat/DisplayEvent", "kind", "()Lcom/example/framebeat/framebeat/DisplayEvent$Kind;"⟩ : MethodName)) (z := (⟨"com/example/framebeat/framebeat/DisplayEvent", "kind", "()Lcom/example/framebeat/framebeat/DisplayEvent$Kind;"⟩ : MethodName)) hown (mvT hZ (hw _ (List.mem_of_getElem? (i := 31) rfl))) (mvT hZ (hw _ (List.mem_of_getElem? (i := 32) rfl))) (notFace_of_selects (args := #[]) (mvT hZ (hw _ (List.mem_of_getElem? (i := 34) rfl)))) (mvT hZ (hw _ (List.mem_of_getElem? (i := 34) rfl))) (mvT hZ (hw _ (List.mem_of_getElem? (i := 33) rfl))) (by decide) (backOf (W := 0) (rm4 l Z a0 CX [] b18 (.ref w_HOTPLUG) rfl T20.heap O F_kind_b18) hZ (hw _ (List.mem_of_getElem? (i := 35) rfl)) (hw _ (List.mem_of_getElem? (i := 6) rfl)) (by decide) (by decide)) q21a q21c (g := (mkF m 120 #[.val (.int x0), .val (.long x1), .second, .val (.long x2), .second, .val (.long x3), .second, .val (.int x4), .val (.int ((x0 &&& (2147483647 : Int32)) % (3 : Int32))), .val (.int (0 : Int32)), .val (.int (0 : Int32)), .val (.ref w_HOTPLUG), .val (.long (x3 &&& (1 : Int64))), .second, .val (.ref b18), .unset] [(.ref b18)])) rfl (by rw [hml]; rfl) (Steps.refl _) (argsL := []) (rest := []) (lenOf pd_3 rfl) rfl (by show 2 * 0 + _ ≤ _; exact Nat.le_of_eq rfl) (hb hby at_120) (fun _ _ => ⟨rfl, rfl, (by decide : 1 + 0 ≤ _), (by decide : 6 + 0 ≤ _)⟩)
          dsimp only [Pt.U, Pt.locs, Pt.cells, Pt.slots] at X21 l21 y21 z21 st21 hQ21
          subst l21 y21 z21
          obtain ⟨rfl, N21q, e21⟩ := hQ21
          have N := Fr.app N N21q
          refine own_tr (T' := T21) (F' := (mkF m 123 #[.val (.int x0), .val (.long x1), .second, .val (.long x2), .second, .val (.long x3), .second, .val (.int x4), .val (.int ((x0 &&& (2147483647 : Int32)) % (3 : Int32))), .val (.int (0 : Int32)), .val (.int (0 : Int32)), .val (.ref w_HOTPLUG), .val (.long (x3 &&& (1 : Int64))), .second, .val (.ref b18), .unset] [(.ref w_HOTPLUG)])) st21 ?_
          refine own_st (T' := T21) (F' := (mkF m 125 #[.val (.int x0), .val (.long x1), .second, .val (.long x2), .second, .val (.long x3), .second, .val (.int x4), .val (.int ((x0 &&& (2147483647 : Int32)) % (3 : Int32))), .val (.int (0 : Int32)), .val (.int (0 : Int32)), .val (.ref w_HOTPLUG), .val (.long (x3 &&& (1 : Int64))), .second, .val (.ref b18), .unset] [(.ref w_HOTPLUG), (.ref w_HOTPLUG)])) (fun t k => XS.aload X21.here hx rfl (hb hby at_123) rfl rfl k) ?_
          refine own_st (T' := T21) (F' := (mkF m 130 #[.val (.int x0), .val (.long x1), .second, .val (.long x2), .second, .val (.long x3), .second, .val (.int x4), .val (.int ((x0 &&& (2147483647 : Int32)) % (3 : Int32))), .val (.int (0 : Int32)), .val (.int (0 : Int32)), .val (.ref w_HOTPLUG), .val (.long (x3 &&& (1 : Int64))), .second, .val (.ref b18), .unset] [])) (fun t k => Jvm.RoadKit.acmp (g := (mkF m 125 #[.val (.int x0), .val (.long x1), .second, .val (.long x2), .second, .val (.long x3), .second, .val (.int x4), .val (.int ((x0 &&& (2147483647 : Int32)) % (3 : Int32))), .val (.int (0 : Int32)), .val (.int (0 : Int32)), .val (.ref w_HOTPLUG), .val (.long (x3 &&& (1 : Int64))), .second, .val (.ref b18), .unset] [(.ref w_HOTPLUG), (.ref w_HOTPLUG)])) X21 hx rfl rfl rfl (pc0 := 125) (pc' := 130) (same := true) rfl (hb hby at_125) rfl (decide_eq_true rfl) (by decide) (by decide) k) ?_
          refine own_st (T' := T21) (F' := (mkF m 132 #[.val (.int x0), .val (.long x1), .second, .val (.long x2), .second, .val (.long x3), .second, .val (.int x4), .val (.int ((x0 &&& (2147483647 : Int32)) % (3 : Int32))), .val (.int (0 : Int32)), .val (.int (0 : Int32)), .val (.ref w_HOTPLUG), .val (.long (x3 &&& (1 : Int64))), .second, .val (.ref b18), .unset] [(.ref b18)])) (fun t k => XS.aload X21.here hx rfl (hb hby at_130) rfl rfl k) ?_
          obtain ⟨cq22, kq22, q22a, q22b, q22c⟩ := isOf hZ e21 E_b18
          obtain ⟨v22, _, ⟨T22, L22, k22, n22⟩, -, X22, ⟨Lc22, hQ22, l22, y22, z22⟩, st22⟩ := X21.virtualBack hx (y := (⟨"com/example/framebeat/framebeat/DisplayEvent", "displayId", "()J"⟩ : MethodName)) (z := (⟨"com/example/framebeat/framebeat/DisplayEvent", "displayId", "()J"⟩ : MethodName)) hown (mvT hZ (hw _ (List.mem_of_getElem? (i := 36) rfl))) (mvT hZ (hw _ (List.mem_of_getElem? (i := 37) rfl))) (notFace_of_selects (args := #[]) (mvT hZ (hw _ (List.mem_of_getElem? (i := 39) rfl)))) (mvT hZ (hw _ (List.mem_of_getElem? (i := 39) rfl))) (mvT hZ (hw _ (List.mem_of_getElem? (i := 38) rfl))) (by decide) (backOf (W := 0) (rm5 l Z a0 CX [] b18 x1 T20.heap O F_displayId_b18) hZ (hw _ (List.mem_of_getElem? (i := 40) rfl)) (hw _ (List.mem_of_getElem? (i := 6) rfl)) (by decide) (by decide)) q22a q22c (g := (mkF m 132 #[.val (.int x0), .val (.long x1), .second, .val (.long x2), .second, .val (.long x3), .second, .val (.int x4), .val (.int ((x0 &&& (2147483647 : Int32)) % (3 : Int32))), .val (.int (0 : Int32)), .val (.int (0 : Int32)), .val (.ref w_HOTPLUG), .val (.long (x3 &&& (1 : Int64))), .second, .val (.ref b18), .unset] [(.ref b18)])) rfl (by rw [hml]; rfl) (Steps.refl _) (argsL := []) (rest := []) (lenOf pd_4 rfl) rfl (by show 2 * 0 + _ ≤ _; exact Nat.le_of_eq rfl) (hb hby at_132) (fun _ _ => ⟨rfl, e21, (by decide : 1 + 0 ≤ _), (by decide : 6 + 0 ≤ _)⟩)
          dsimp only [Pt.U, Pt.locs, Pt.cells, Pt.slots] at X22 l22 y22 z22 st22 hQ22
          subst l22 y22 z22
          obtain ⟨rfl, N22q, e22⟩ := hQ22
          have N := Fr.app N N22q
          refine own_tr (T' := T22) (F' := (mkF m 135 #[.val (.int x0), .val (.long x1), .second, .val (.long x2), .second, .val (.long x3), .second, .val (.int x4), .val (.int ((x0 &&& (2147483647 : Int32)) % (3 : Int32))), .val (.int (0 : Int32)), .val (.int (0 : Int32)), .val (.ref w_HOTPLUG), .val (.long (x3 &&& (1 : Int64))), .second, .val (.ref b18), .unset] [(.long x1)])) st22 ?_
          refine own_st (T' := T22) (F' := (mkF m 136 #[.val (.int x0), .val (.long x1), .second, .val (.long x2), .second, .val (.long x3), .second, .val (.int x4), .val (.int ((x0 &&& (2147483647 : Int32)) % (3 : Int32))), .val (.int (0 : Int32)), .val (.int (0 : Int32)), .val (.ref w_HOTPLUG), .val (.long (x3 &&& (1 : Int64))), .second, .val (.ref b18), .unset] [(.long x1), (.long x1)])) (fun t k => XS.lloadN X22.here hx rfl (hb hby at_135) rfl k) ?_
          refine own_st (T' := T22) (F' := (mkF m 137 #[.val (.int x0), .val (.long x1), .second, .val (.long x2), .second, .val (.long x3), .second, .val (.int x4), .val (.int ((x0 &&& (2147483647 : Int32)) % (3 : Int32))), .val (.int (0 : Int32)), .val (.int (0 : Int32)), .val (.ref w_HOTPLUG), .val (.long (x3 &&& (1 : Int64))), .second, .val (.ref b18), .unset] [(.int (lcmpW x1 x1))])) (fun t k => XS.lcmp X22.here hx rfl (hb hby at_136) rfl k) ?_
          refine own_st (T' := T22) (F' := (mkF m 142 #[.val (.int x0), .val (.long x1), .second, .val (.long x2), .second, .val (.long x3), .second, .val (.int x4), .val (.int ((x0 &&& (2147483647 : Int32)) % (3 : Int32))), .val (.int (0 : Int32)), .val (.int (0 : Int32)), .val (.ref w_HOTPLUG), .val (.long (x3 &&& (1 : Int64))), .second, .val (.ref b18), .unset] [])) (fun t k => XS.ifYes X22.here hx rfl (pc0 := 137) (pc' := 142) rfl (hb hby at_137) rfl ((if0 _ _).trans (teq ((lw_eq _ _).mpr rfl)).1) (by decide) (by decide) k) ?_
          refine own_st (T' := T22) (F' := (mkF m 144 #[.val (.int x0), .val (.long x1), .second, .val (.long x2), .second, .val (.long x3), .second, .val (.int x4), .val (.int ((x0 &&& (2147483647 : Int32)) % (3 : Int32))), .val (.int (0 : Int32)), .val (.int (0 : Int32)), .val (.ref w_HOTPLUG), .val (.long (x3 &&& (1 : Int64))), .second, .val (.ref b18), .unset] [(.ref b18)])) (fun t k => XS.aload X22.here hx rfl (hb hby at_142) rfl rfl k) ?_
          obtain ⟨cq23, kq23, q23a, q23b, q23c⟩ := isOf hZ e22 E_b18
          obtain ⟨v23, _, ⟨T23, L23, k23, n23⟩, -, X23, ⟨Lc23, hQ23, l23, y23, z23⟩, st23⟩ := X22.virtualBack hx (y := (⟨"com/example/framebeat/framebeat/DisplayEvent", "timestampNanos", "()J"⟩ : MethodName)) (z := (⟨"com/example/framebeat/framebeat/DisplayEvent", "timestampNanos", "()J"⟩ : MethodName)) hown (mvT hZ (hw _ (List.mem_of_getElem? (i := 41) rfl))) (mvT hZ (hw _ (List.mem_of_getElem? (i := 42) rfl))) (notFace_of_selects (args := #[]) (mvT hZ (hw _ (List.mem_of_getElem? (i := 44) rfl)))) (mvT hZ (hw _ (List.mem_of_getElem? (i := 44) rfl))) (mvT hZ (hw _ (List.mem_of_getElem? (i := 43) rfl))) (by decide) (backOf (W := 0) (rm6 l Z a0 CX [] b18 x2 T20.heap O F_timestampNanos_b18) hZ (hw _ (List.mem_of_getElem? (i := 45) rfl)) (hw _ (List.mem_of_getElem? (i := 6) rfl)) (by decide) (by decide)) q23a q23c (g := (mkF m 144 #[.val (.int x0), .val (.long x1), .second, .val (.long x2), .second, .val (.long x3), .second, .val (.int x4), .val (.int ((x0 &&& (2147483647 : Int32)) % (3 : Int32))), .val (.int (0 : Int32)), .val (.int (0 : Int32)), .val (.ref w_HOTPLUG), .val (.long (x3 &&& (1 : Int64))), .second, .val (.ref b18), .unset] [(.ref b18)])) rfl (by rw [hml]; rfl) (Steps.refl _) (argsL := []) (rest := []) (lenOf pd_4 rfl) rfl (by show 2 * 0 + _ ≤ _; exact Nat.le_of_eq rfl) (hb hby at_144) (fun _ _ => ⟨rfl, e22, (by decide : 1 + 0 ≤ _), (by decide : 6 + 0 ≤ _)⟩)
          dsimp only [Pt.U, Pt.locs, Pt.cells, Pt.slots] at X23 l23 y23 z23 st23 hQ23
          subst l23 y23 z23
          obtain ⟨rfl, N23q, e23⟩ := hQ23
          have N := Fr.app N N23q
          refine own_tr (T' := T23) (F' := (mkF m 147 #[.val (.int x0), .val (.long x1), .second, .val (.long x2), .second, .val (.long x3), .second, .val (.int x4), .val (.int ((x0 &&& (2147483647 : Int32)) % (3 : Int32))), .val (.int (0 : Int32)), .val (.int (0 : Int32)), .val (.ref w_HOTPLUG), .val (.long (x3 &&& (1 : Int64))), .second, .val (.ref b18), .unset] [(.long x2)])) st23 ?_
          refine own_st (T' := T23) (F' := (mkF m 148 #[.val (.int x0), .val (.long x1), .second, .val (.long x2), .second, .val (.long x3), .second, .val (.int x4), .val (.int ((x0 &&& (2147483647 : Int32)) % (3 : Int32))), .val (.int (0 : Int32)), .val (.int (0 : Int32)), .val (.ref w_HOTPLUG), .val (.long (x3 &&& (1 : Int64))), .second, .val (.ref b18), .unset] [(.long x2), (.long x2)])) (fun t k => XS.lloadN X23.here hx rfl (hb hby at_147) rfl k) ?_
          refine own_st (T' := T23) (F' := (mkF m 149 #[.val (.int x0), .val (.long x1), .second, .val (.long x2), .second, .val (.long x3), .second, .val (.int x4), .val (.int ((x0 &&& (2147483647 : Int32)) % (3 : Int32))), .val (.int (0 : Int32)), .val (.int (0 : Int32)), .val (.ref w_HOTPLUG), .val (.long (x3 &&& (1 : Int64))), .second, .val (.ref b18), .unset] [(.int (lcmpW x2 x2))])) (fun t k => XS.lcmp X23.here hx rfl (hb hby at_148) rfl k) ?_
          refine own_st (T' := T23) (F' := (mkF m 154 #[.val (.int x0), .val (.long x1), .second, .val (.long x2), .second, .val (.long x3), .second, .val (.int x4), .val (.int ((x0 &&& (2147483647 : Int32)) % (3 : Int32))), .val (.int (0 : Int32)), .val (.int (0 : Int32)), .val (.ref w_HOTPLUG), .val (.long (x3 &&& (1 : Int64))), .second, .val (.ref b18), .unset] [])) (fun t k => XS.ifYes X23.here hx rfl (pc0 := 149) (pc' := 154) rfl (hb hby at_149) rfl ((if0 _ _).trans (teq ((lw_eq _ _).mpr rfl)).1) (by decide) (by decide) k) ?_
          refine own_st (T' := T23) (F' := (mkF m 156 #[.val (.int x0), .val (.long x1), .second, .val (.long x2), .second, .val (.long x3), .second, .val (.int x4), .val (.int ((x0 &&& (2147483647 : Int32)) % (3 : Int32))), .val (.int (0 : Int32)), .val (.int (0 : Int32)), .val (.ref w_HOTPLUG), .val (.long (x3 &&& (1 : Int64))), .second, .val (.ref b18), .unset] [(.ref b18)])) (fun t k => XS.aload X23.here hx rfl (hb hby at_154) rfl rfl k) ?_
          obtain ⟨cq24, kq24, q24a, q24b, q24c⟩ := isOf hZ e23 E_b18
          obtain ⟨v24, _, ⟨T24, L24, k24, n24⟩, -, X24, ⟨Lc24, hQ24, l24, y24, z24⟩, st24⟩ := X23.virtualBack hx (y := (⟨"com/example/framebeat/framebeat/DisplayEvent", "isSubstitute", "()Z"⟩ : MethodName)) (z := (⟨"com/example/framebeat/framebeat/DisplayEvent", "isSubstitute", "()Z"⟩ : MethodName)) hown (mvT hZ (hw _ (List.mem_of_getElem? (i := 46) rfl))) (mvT hZ (hw _ (List.mem_of_getElem? (i := 47) rfl))) (notFace_of_selects (args := #[]) (mvT hZ (hw _ (List.mem_of_getElem? (i := 49) rfl)))) (mvT hZ (hw _ (List.mem_of_getElem? (i := 49) rfl))) (mvT hZ (hw _ (List.mem_of_getElem? (i := 48) rfl))) (by decide) (backOf (W := 0) (rm7 l Z a0 CX [] b18 (0 : Int32) (by decide) T20.heap O F_substitute_b18) hZ (hw _ (List.mem_of_getElem? (i := 50) rfl)) (hw _ (List.mem_of_getElem? (i := 6) rfl)) (by decide) (by decide)) q24a q24c (g := (mkF m 156 #[.val (.int x0), .val (.long x1), .second, .val (.long x2), .second, .val (.long x3), .second, .val (.int x4), .val (.int ((x0 &&& (2147483647 : Int32)) % (3 : Int32))), .val (.int (0 : Int32)), .val (.int (0 : Int32)), .val (.ref w_HOTPLUG), .val (.long (x3 &&& (1 : Int64))), .second, .val (.ref b18), .unset] [(.ref b18)])) rfl (by rw [hml]; rfl) (Steps.refl _) (argsL := []) (rest := []) (lenOf pd_5 rfl) rfl (by show 2 * 0 + _ ≤ _; exact Nat.le_of_eq rfl) (hb hby at_156) (fun _ _ => ⟨rfl, e23, (by decide : 1 + 0 ≤ _), (by decide : 6 + 0 ≤ _)⟩)
          dsimp only [Pt.U, Pt.locs, Pt.cells, Pt.slots] at X24 l24 y24 z24 st24 hQ24
          subst l24 y24 z24
          obtain ⟨rfl, N24q, e24⟩ := hQ24
          have N := Fr.app N N24q
          refine own_tr (T' := T24) (F' := (mkF m 159 #[.val (.int x0), .val (.long x1), .second, .val (.long x2), .second, .val (.long x3), .second, .val (.int x4), .val (.int ((x0 &&& (2147483647 : Int32)) % (3 : Int32))), .val (.int (0 : Int32)), .val (.int (0 : Int32)), .val (.ref w_HOTPLUG), .val (.long (x3 &&& (1 : Int64))), .second, .val (.ref b18), .unset] [(.int (0 : Int32))])) st24 ?_
          refine own_st (T' := T24) (F' := (mkF m 161 #[.val (.int x0), .val (.long x1), .second, .val (.long x2), .second, .val (.long x3), .second, .val (.int x4), .val (.int ((x0 &&& (2147483647 : Int32)) % (3 : Int32))), .val (.int (0 : Int32)), .val (.int (0 : Int32)), .val (.ref w_HOTPLUG), .val (.long (x3 &&& (1 : Int64))), .second, .val (.ref b18), .unset] [(.int (0 : Int32)), (.int (0 : Int32))])) (fun t k => XS.iload X24.here hx rfl (hb hby at_159) rfl k) ?_
          refine own_st (T' := T24) (F' := (mkF m 166 #[.val (.int x0), .val (.long x1), .second, .val (.long x2), .second, .val (.long x3), .second, .val (.int x4), .val (.int ((x0 &&& (2147483647 : Int32)) % (3 : Int32))), .val (.int (0 : Int32)), .val (.int (0 : Int32)), .val (.ref w_HOTPLUG), .val (.long (x3 &&& (1 : Int64))), .second, .val (.ref b18), .unset] [])) (fun t k => XS.icmpYes X24.here hx rfl (pc0 := 161) (pc' := 166) rfl (hb hby at_161) rfl (teq rfl).1 (by decide) (by decide) k) ?_
          refine own_st (T' := T24) (F' := (mkF m 168 #[.val (.int x0), .val (.long x1), .second, .val (.long x2), .second, .val (.long x3), .second, .val (.int x4), .val (.int ((x0 &&& (2147483647 : Int32)) % (3 : Int32))), .val (.int (0 : Int32)), .val (.int (0 : Int32)), .val (.ref w_HOTPLUG), .val (.long (x3 &&& (1 : Int64))), .second, .val (.ref b18), .unset] [(.ref b18)])) (fun t k => XS.aload X24.here hx rfl (hb hby at_166) rfl rfl k) ?_
          obtain ⟨cq25, kq25, q25a, q25b, q25c⟩ := isOf hZ e24 E_b18
          obtain ⟨v25, _, ⟨T25, L25, k25, n25⟩, -, X25, ⟨Lc25, hQ25, l25, y25, z25⟩, st25⟩ := X24.virtualBack hx (y := (⟨"com/example/framebeat/framebeat/DisplayEvent", "isSynthetic", "()Z"⟩ : MethodName)) (z := (⟨"com/example/framebeat/framebeat/DisplayEvent", "isSynthetic", "()Z"⟩ : MethodName)) hown (mvT hZ (hw _ (List.mem_of_getElem? (i := 51) rfl))) (mvT hZ (hw _ (List.mem_of_getElem? (i := 52) rfl))) (notFace_of_selects (args := #[]) (mvT hZ (hw _ (List.mem_of_getElem? (i := 54) rfl)))) (mvT hZ (hw _ (List.mem_of_getElem? (i := 54) rfl))) (mvT hZ (hw _ (List.mem_of_getElem? (i := 53) rfl))) (by decide) (backOf (W := 0) (rm8 l Z a0 CX [] b18 (0 : Int32) (by decide) T20.heap O F_synthetic_b18) hZ (hw _ (List.mem_of_getElem? (i := 55) rfl)) (hw _ (List.mem_of_getElem? (i := 6) rfl)) (by decide) (by decide)) q25a q25c (g := (mkF m 168 #[.val (.int x0), .val (.long x1), .second, .val (.long x2), .second, .val (.long x3), .second, .val (.int x4), .val (.int ((x0 &&& (2147483647 : Int32)) % (3 : Int32))), .val (.int (0 : Int32)), .val (.int (0 : Int32)), .val (.ref w_HOTPLUG), .val (.long (x3 &&& (1 : Int64))), .second, .val (.ref b18), .unset] [(.ref b18)])) rfl (by rw [hml]; rfl) (Steps.refl _) (argsL := []) (rest := []) (lenOf pd_5 rfl) rfl (by show 2 * 0 + _ ≤ _; exact Nat.le_of_eq rfl) (hb hby at_168) (fun _ _ => ⟨rfl, e24, (by decide : 1 + 0 ≤ _), (by decide : 6 + 0 ≤ _)⟩)
          dsimp only [Pt.U, Pt.locs, Pt.cells, Pt.slots] at X25 l25 y25 z25 st25 hQ25
          subst l25 y25 z25
          obtain ⟨rfl, N25q, e25⟩ := hQ25
          have N := Fr.app N N25q
          refine own_tr (T' := T25) (F' := (mkF m 171 #[.val (.int x0), .val (.long x1), .second, .val (.long x2), .second, .val (.long x3), .second, .val (.int x4), .val (.int ((x0 &&& (2147483647 : Int32)) % (3 : Int32))), .val (.int (0 : Int32)), .val (.int (0 : Int32)), .val (.ref w_HOTPLUG), .val (.long (x3 &&& (1 : Int64))), .second, .val (.ref b18), .unset] [(.int (0 : Int32))])) st25 ?_
          refine own_st (T' := T25) (F' := (mkF m 173 #[.val (.int x0), .val (.long x1), .second, .val (.long x2), .second, .val (.long x3), .second, .val (.int x4), .val (.int ((x0 &&& (2147483647 : Int32)) % (3 : Int32))), .val (.int (0 : Int32)), .val (.int (0 : Int32)), .val (.ref w_HOTPLUG), .val (.long (x3 &&& (1 : Int64))), .second, .val (.ref b18), .unset] [(.int (0 : Int32)), (.int (0 : Int32))])) (fun t k => XS.iload X25.here hx rfl (hb hby at_171) rfl k) ?_
          refine own_st (T' := T25) (F' := (mkF m 178 #[.val (.int x0), .val (.long x1), .second, .val (.long x2), .second, .val (.long x3), .second, .val (.int x4), .val (.int ((x0 &&& (2147483647 : Int32)) % (3 : Int32))), .val (.int (0 : Int32)), .val (.int (0 : Int32)), .val (.ref w_HOTPLUG), .val (.long (x3 &&& (1 : Int64))), .second, .val (.ref b18), .unset] [])) (fun t k => XS.icmpYes X25.here hx rfl (pc0 := 173) (pc' := 178) rfl (hb hby at_173) rfl (teq rfl).1 (by decide) (by decide) k) ?_
          refine own_st (T' := T25) (F' := (mkF m 180 #[.val (.int x0), .val (.long x1), .second, .val (.long x2), .second, .val (.long x3), .second, .val (.int x4), .val (.int ((x0 &&& (2147483647 : Int32)) % (3 : Int32))), .val (.int (0 : Int32)), .val (.int (0 : Int32)), .val (.ref w_HOTPLUG), .val (.long (x3 &&& (1 : Int64))), .second, .val (.ref b18), .unset] [(.int ((x0 &&& (2147483647 : Int32)) % (3 : Int32)))])) (fun t k => XS.iload X25.here hx rfl (hb hby at_178) rfl k) ?_
          refine own_st (T' := T25) (F' := (mkF m 204 #[.val (.int x0), .val (.long x1), .second, .val (.long x2), .second, .val (.long x3), .second, .val (.int x4), .val (.int ((x0 &&& (2147483647 : Int32)) % (3 : Int32))), .val (.int (0 : Int32)), .val (.int (0 : Int32)), .val (.ref w_HOTPLUG), .val (.long (x3 &&& (1 : Int64))), .second, .val (.ref b18), .unset] [])) (fun t k => XS.ifYes X25.here hx rfl (pc0 := 180) (pc' := 204) rfl (hb hby at_180) rfl ((if0 _ _).trans (feq hc38_5).2) (by decide) (by decide) k) ?_
          refine own_st (T' := T25) (F' := (mkF m 206 #[.val (.int x0), .val (.long x1), .second, .val (.long x2), .second, .val (.long x3), .second, .val (.int x4), .val (.int ((x0 &&& (2147483647 : Int32)) % (3 : Int32))), .val (.int (0 : Int32)), .val (.int (0 : Int32)), .val (.ref w_HOTPLUG), .val (.long (x3 &&& (1 : Int64))), .second, .val (.ref b18), .unset] [(.int ((x0 &&& (2147483647 : Int32)) % (3 : Int32)))])) (fun t k => XS.iload X25.here hx rfl (hb hby at_204) rfl k) ?_
          refine own_st (T' := T25) (F' := (mkF m 207 #[.val (.int x0), .val (.long x1), .second, .val (.long x2), .second, .val (.long x3), .second, .val (.int x4), .val (.int ((x0 &&& (2147483647 : Int32)) % (3 : Int32))), .val (.int (0 : Int32)), .val (.int (0 : Int32)), .val (.ref w_HOTPLUG), .val (.long (x3 &&& (1 : Int64))), .second, .val (.ref b18), .unset] [(.int (1 : Int32)), (.int ((x0 &&& (2147483647 : Int32)) % (3 : Int32)))])) (fun t k => XS.iconst X25.here hx rfl (hb hby at_206) k) ?_
          refine own_st (T' := T25) (F' := (mkF m 210 #[.val (.int x0), .val (.long x1), .second, .val (.long x2), .second, .val (.long x3), .second, .val (.int x4), .val (.int ((x0 &&& (2147483647 : Int32)) % (3 : Int32))), .val (.int (0 : Int32)), .val (.int (0 : Int32)), .val (.ref w_HOTPLUG), .val (.long (x3 &&& (1 : Int64))), .second, .val (.ref b18), .unset] [])) (fun t k => XS.icmpNo X25.here hx rfl (hb hby at_207) rfl (teq hc56_16).2 k) ?_
          by_cases hk0_26 : (lcmpW (x3 &&& (1 : Int64)) (0 : Int64)) = (0 : Int32)
          · refine own_st (T' := T25) (F' := (mkF m 212 #[.val (.int x0), .val (.long x1), .second, .val (.long x2), .second, .val (.long x3), .second, .val (.int x4), .val (.int ((x0 &&& (2147483647 : Int32)) % (3 : Int32))), .val (.int (0 : Int32)), .val (.int (0 : Int32)), .val (.ref w_HOTPLUG), .val (.long (x3 &&& (1 : Int64))), .second, .val (.ref b18), .unset] [(.ref b18)])) (fun t k => XS.aload X25.here hx rfl (hb hby at_210) rfl rfl k) ?_
            obtain ⟨cq27, kq27, q27a, q27b, q27c⟩ := isOf hZ e25 E_b18
            obtain ⟨v27, _, ⟨T27, L27, k27, n27⟩, -, X27, hSq27, hgr27, ⟨Lc27, hQ27, l27, y27, z27⟩, st27⟩ := X25.virtualBackS hx (y := (⟨"com/example/framebeat/framebeat/DisplayEvent", "isConnected", "()Z"⟩ : MethodName)) (z := (⟨"com/example/framebeat/framebeat/DisplayEvent", "isConnected", "()Z"⟩ : MethodName)) hown (mvT hZ (hw _ (List.mem_of_getElem? (i := 75) rfl))) (mvT hZ (hw _ (List.mem_of_getElem? (i := 76) rfl))) (notFace_of_selects (args := #[]) (mvT hZ (hw _ (List.mem_of_getElem? (i := 78) rfl)))) (mvT hZ (hw _ (List.mem_of_getElem? (i := 78) rfl))) (mvT hZ (hw _ (List.mem_of_getElem? (i := 77) rfl))) (by decide) (backOfS (W := 0) (rm11 l Z a0 CX [] b18 (x3 &&& (1 : Int64)) (0 : Int32) T20.heap O E_b18 F_kind_b18 F_value_b18 (by simp [hk0_26])) hZ (hw _ (List.mem_of_getElem? (i := 79) rfl)) (hw _ (List.mem_of_getElem? (i := 6) rfl)) (by decide) (by decide)) q27a q27c (g := (mkF m 212 #[.val (.int x0), .val (.long x1), .second, .val (.long x2), .second, .val (.long x3), .second, .val (.int x4), .val (.int ((x0 &&& (2147483647 : Int32)) % (3 : Int32))), .val (.int (0 : Int32)), .val (.int (0 : Int32)), .val (.ref w_HOTPLUG), .val (.long (x3 &&& (1 : Int64))), .second, .val (.ref b18), .unset] [(.ref b18)])) rfl (by rw [hml]; rfl) (Steps.refl _) (argsL := []) (rest := []) (lenOf pd_5 rfl) rfl (by show 2 * 0 + _ ≤ _; exact Nat.le_of_eq rfl) (hb hby at_212) (fun _ _ => ⟨rfl, e25, (by decide : 1 + 2 ≤ _), (by decide : 6 + 64 ≤ _)⟩)
            dsimp only [Pt.U, Pt.locs, Pt.cells, Pt.slots] at X27 l27 y27 z27 st27 hQ27 hSq27 hgr27
            subst l27 y27 z27
            have hS := foldS hS (by rw [e25]; exact hk) hSq27 hgr27
            have hk : T27.heap.size ≤ T27.heap.size := Nat.le_refl _
            have hZ : Z.Warmed39 (s.setVm T27.vm).vm := State.Warmed39.trans (t := (s.setVm s.vm)) hZ hSq27.1
            have hown : (s.setVm T27.vm).vm.findClass "com/example/framebeat/framebeat/DisplayEventSetPinLaw" = some m.cls := by show T27.vm.findClass _ = _; rw [hSq27.1.alike.findClass]; exact hown
            have X27 : Stand p l e room_1 (s.setVm T27.vm) m #[(.int x0), (.long x1), (.long x2), (.long x3), (.int x4)] below meth c T27 _ _ _ := X27
            obtain ⟨rfl, N27q, E27⟩ := hQ27
            have N := Fr.app N N27q
            have E_b18 := E_b18.ext E27
            have F_kind_b18 := F_kind_b18.ext E27
            have F_displayId_b18 := F_displayId_b18.ext E27
            have F_timestampNanos_b18 := F_timestampNanos_b18.ext E27
            have F_value_b18 := F_value_b18.ext E27
            have F_substitute_b18 := F_substitute_b18.ext E27
            have F_synthetic_b18 := F_synthetic_b18.ext E27
            have O := own_ext_trans O E27
            refine own_tr (T' := T27) (F' := (mkF m 215 #[.val (.int x0), .val (.long x1), .second, .val (.long x2), .second, .val (.long x3), .second, .val (.int x4), .val (.int ((x0 &&& (2147483647 : Int32)) % (3 : Int32))), .val (.int (0 : Int32)), .val (.int (0 : Int32)), .val (.ref w_HOTPLUG), .val (.long (x3 &&& (1 : Int64))), .second, .val (.ref b18), .unset] [(.int (0 : Int32))])) st27 ?_
            refine own_st (T' := T27) (F' := (mkF m 217 #[.val (.int x0), .val (.long x1), .second, .val (.long x2), .second, .val (.long x3), .second, .val (.int x4), .val (.int ((x0 &&& (2147483647 : Int32)) % (3 : Int32))), .val (.int (0 : Int32)), .val (.int (0 : Int32)), .val (.ref w_HOTPLUG), .val (.long (x3 &&& (1 : Int64))), .second, .val (.ref b18), .unset] [(.long x3), (.int (0 : Int32))])) (fun t k => XS.lload X27.here hx rfl (hb hby at_215) rfl k) ?_
            refine own_st (T' := T27) (F' := (mkF m 218 #[.val (.int x0), .val (.long x1), .second, .val (.long x2), .second, .val (.long x3), .second, .val (.int x4), .val (.int ((x0 &&& (2147483647 : Int32)) % (3 : Int32))), .val (.int (0 : Int32)), .val (.int (0 : Int32)), .val (.ref w_HOTPLUG), .val (.long (x3 &&& (1 : Int64))), .second, .val (.ref b18), .unset] [(.long (1 : Int64)), (.long x3), (.int (0 : Int32))])) (fun t k => XS.lconst X27.here hx rfl (hb hby at_217) k) ?_
            refine own_st (T' := T27) (F' := (mkF m 219 #[.val (.int x0), .val (.long x1), .second, .val (.long x2), .second, .val (.long x3), .second, .val (.int x4), .val (.int ((x0 &&& (2147483647 : Int32)) % (3 : Int32))), .val (.int (0 : Int32)), .val (.int (0 : Int32)), .val (.ref w_HOTPLUG), .val (.long (x3 &&& (1 : Int64))), .second, .val (.ref b18), .unset] [(.long (x3 &&& (1 : Int64))), (.int (0 : Int32))])) (fun t k => XS.land X27.here hx rfl (hb hby at_218) rfl k) ?_
            refine own_st (T' := T27) (F' := (mkF m 220 #[.val (.int x0), .val (.long x1), .second, .val (.long x2), .second, .val (.long x3), .second, .val (.int x4), .val (.int ((x0 &&& (2147483647 : Int32)) % (3 : Int32))), .val (.int (0 : Int32)), .val (.int (0 : Int32)), .val (.ref w_HOTPLUG), .val (.long (x3 &&& (1 : Int64))), .second, .val (.ref b18), .unset] [(.long (0 : Int64)), (.long (x3 &&& (1 : Int64))), (.int (0 : Int32))])) (fun t k => XS.lconst X27.here hx rfl (hb hby at_219) k) ?_
            refine own_st (T' := T27) (F' := (mkF m 221 #[.val (.int x0), .val (.long x1), .second, .val (.long x2), .second, .val (.long x3), .second, .val (.int x4), .val (.int ((x0 &&& (2147483647 : Int32)) % (3 : Int32))), .val (.int (0 : Int32)), .val (.int (0 : Int32)), .val (.ref w_HOTPLUG), .val (.long (x3 &&& (1 : Int64))), .second, .val (.ref b18), .unset] [(.int (lcmpW (x3 &&& (1 : Int64)) (0 : Int64))), (.int (0 : Int32))])) (fun t k => XS.lcmp X27.here hx rfl (hb hby at_220) rfl k) ?_
            refine own_st (T' := T27) (F' := (mkF m 228 #[.val (.int x0), .val (.long x1), .second, .val (.long x2), .second, .val (.long x3), .second, .val (.int x4), .val (.int ((x0 &&& (2147483647 : Int32)) % (3 : Int32))), .val (.int (0 : Int32)), .val (.int (0 : Int32)), .val (.ref w_HOTPLUG), .val (.long (x3 &&& (1 : Int64))), .second, .val (.ref b18), .unset] [(.int (0 : Int32))])) (fun t k => XS.ifYes X27.here hx rfl (pc0 := 221) (pc' := 228) rfl (hb hby at_221) rfl ((if0 _ _).trans (teq hk0_26).1) (by decide) (by decide) k) ?_
            refine own_st (T' := T27) (F' := (mkF m 229 #[.val (.int x0), .val (.long x1), .second, .val (.long x2), .second, .val (.long x3), .second, .val (.int x4), .val (.int ((x0 &&& (2147483647 : Int32)) % (3 : Int32))), .val (.int (0 : Int32)), .val (.int (0 : Int32)), .val (.ref w_HOTPLUG), .val (.long (x3 &&& (1 : Int64))), .second, .val (.ref b18), .unset] [(.int (0 : Int32)), (.int (0 : Int32))])) (fun t k => XS.iconst X27.here hx rfl (hb hby at_228) k) ?_
            refine own_st (T' := T27) (F' := (mkF m 232 #[.val (.int x0), .val (.long x1), .second, .val (.long x2), .second, .val (.long x3), .second, .val (.int x4), .val (.int ((x0 &&& (2147483647 : Int32)) % (3 : Int32))), .val (.int (0 : Int32)), .val (.int (0 : Int32)), .val (.ref w_HOTPLUG), .val (.long (x3 &&& (1 : Int64))), .second, .val (.ref b18), .unset] [])) (fun t k => XS.icmpNo X27.here hx rfl (hb hby at_229) rfl (teq rfl).2 k) ?_
            refine own_st (T' := T27) (F' := (mkF m 233 #[.val (.int x0), .val (.long x1), .second, .val (.long x2), .second, .val (.long x3), .second, .val (.int x4), .val (.int ((x0 &&& (2147483647 : Int32)) % (3 : Int32))), .val (.int (0 : Int32)), .val (.int (0 : Int32)), .val (.ref w_HOTPLUG), .val (.long (x3 &&& (1 : Int64))), .second, .val (.ref b18), .unset] [(.int (1 : Int32))])) (fun t k => XS.iconst X27.here hx rfl (hb hby at_232) k) ?_
            refine own_st (T' := T27) (F' := (mkF m 237 #[.val (.int x0), .val (.long x1), .second, .val (.long x2), .second, .val (.long x3), .second, .val (.int x4), .val (.int ((x0 &&& (2147483647 : Int32)) % (3 : Int32))), .val (.int (0 : Int32)), .val (.int (0 : Int32)), .val (.ref w_HOTPLUG), .val (.long (x3 &&& (1 : Int64))), .second, .val (.ref b18), .unset] [(.int (1 : Int32))])) (fun t k => XS.goto X27.here hx rfl (pc0 := 233) (pc' := 237) rfl (hb hby at_233) (by decide) (by decide) k) ?_
            refine own_st (T' := T27) (F' := (mkF m 239 #[.val (.int x0), .val (.long x1), .second, .val (.long x2), .second, .val (.long x3), .second, .val (.int x4), .val (.int ((x0 &&& (2147483647 : Int32)) % (3 : Int32))), .val (.int (0 : Int32)), .val (.int (0 : Int32)), .val (.ref w_HOTPLUG), .val (.long (x3 &&& (1 : Int64))), .second, .val (.ref b18), .val (.int (1 : Int32))] [])) (fun t k => XS.istore X27.here hx rfl (hb hby at_237) rfl (l' := #[.val (.int x0), .val (.long x1), .second, .val (.long x2), .second, .val (.long x3), .second, .val (.int x4), .val (.int ((x0 &&& (2147483647 : Int32)) % (3 : Int32))), .val (.int (0 : Int32)), .val (.int (0 : Int32)), .val (.ref w_HOTPLUG), .val (.long (x3 &&& (1 : Int64))), .second, .val (.ref b18), .val (.int (1 : Int32))]) rfl k) ?_
            refine own_st (T' := T27) (F' := (mkF m 260 #[.val (.int x0), .val (.long x1), .second, .val (.long x2), .second, .val (.long x3), .second, .val (.int x4), .val (.int ((x0 &&& (2147483647 : Int32)) % (3 : Int32))), .val (.int (0 : Int32)), .val (.int (0 : Int32)), .val (.ref w_HOTPLUG), .val (.long (x3 &&& (1 : Int64))), .second, .val (.ref b18), .val (.int (1 : Int32))] [])) (fun t k => XS.goto X27.here hx rfl (pc0 := 239) (pc' := 260) rfl (hb hby at_239) (by decide) (by decide) k) ?_
            refine own_st (T' := T27) (F' := (mkF m 262 #[.val (.int x0), .val (.long x1), .second, .val (.long x2), .second, .val (.long x3), .second, .val (.int x4), .val (.int ((x0 &&& (2147483647 : Int32)) % (3 : Int32))), .val (.int (0 : Int32)), .val (.int (0 : Int32)), .val (.ref w_HOTPLUG), .val (.long (x3 &&& (1 : Int64))), .second, .val (.ref b18), .val (.int (1 : Int32))] [(.int (1 : Int32))])) (fun t k => XS.iload X27.here hx rfl (hb hby at_260) rfl k) ?_
            exact own_retNW X27 hx (t := .boolean) Bd.returns (by simp) (by decide) hS hk (hb hby at_262) hlk (⟨rfl, N⟩) (by decide) (by decide)
          · refine own_st (T' := T25) (F' := (mkF m 212 #[.val (.int x0), .val (.long x1), .second, .val (.long x2), .second, .val (.long x3), .second, .val (.int x4), .val (.int ((x0 &&& (2147483647 : Int32)) % (3 : Int32))), .val (.int (0 : Int32)), .val (.int (0 : Int32)), .val (.ref w_HOTPLUG), .val (.long (x3 &&& (1 : Int64))), .second, .val (.ref b18), .unset] [(.ref b18)])) (fun t k => XS.aload X25.here hx rfl (hb hby at_210) rfl rfl k) ?_
            obtain ⟨cq28, kq28, q28a, q28b, q28c⟩ := isOf hZ e25 E_b18
            obtain ⟨v28, _, ⟨T28, L28, k28, n28⟩, -, X28, hSq28, hgr28, ⟨Lc28, hQ28, l28, y28, z28⟩, st28⟩ := X25.virtualBackS hx (y := (⟨"com/example/framebeat/framebeat/DisplayEvent", "isConnected", "()Z"⟩ : MethodName)) (z := (⟨"com/example/framebeat/framebeat/DisplayEvent", "isConnected", "()Z"⟩ : MethodName)) hown (mvT hZ (hw _ (List.mem_of_getElem? (i := 75) rfl))) (mvT hZ (hw _ (List.mem_of_getElem? (i := 76) rfl))) (notFace_of_selects (args := #[]) (mvT hZ (hw _ (List.mem_of_getElem? (i := 78) rfl)))) (mvT hZ (hw _ (List.mem_of_getElem? (i := 78) rfl))) (mvT hZ (hw _ (List.mem_of_getElem? (i := 77) rfl))) (by decide) (backOfS (W := 0) (rm11 l Z a0 CX [] b18 (x3 &&& (1 : Int64)) (1 : Int32) T20.heap O E_b18 F_kind_b18 F_value_b18 (by simp [hk0_26])) hZ (hw _ (List.mem_of_getElem? (i := 79) rfl)) (hw _ (List.mem_of_getElem? (i := 6) rfl)) (by decide) (by decide)) q28a q28c (g := (mkF m 212 #[.val (.int x0), .val (.long x1), .second, .val (.long x2), .second, .val (.long x3), .second, .val (.int x4), .val (.int ((x0 &&& (2147483647 : Int32)) % (3 : Int32))), .val (.int (0 : Int32)), .val (.int (0 : Int32)), .val (.ref w_HOTPLUG), .val (.long (x3 &&& (1 : Int64))), .second, .val (.ref b18), .unset] [(.ref b18)])) rfl (by rw [hml]; rfl) (Steps.refl _) (argsL := []) (rest := []) (lenOf pd_5 rfl) rfl (by show 2 * 0 + _ ≤ _; exact Nat.le_of_eq rfl) (hb hby at_212) (fun _ _ => ⟨rfl, e25, (by decide : 1 + 2 ≤ _), (by decide : 6 + 64 ≤ _)⟩)
            dsimp only [Pt.U, Pt.locs, Pt.cells, Pt.slots] at X28 l28 y28 z28 st28 hQ28 hSq28 hgr28
            subst l28 y28 z28
            have hS := foldS hS (by rw [e25]; exact hk) hSq28 hgr28
            have hk : T28.heap.size ≤ T28.heap.size := Nat.le_refl _
            have hZ : Z.Warmed39 (s.setVm T28.vm).vm := State.Warmed39.trans (t := (s.setVm s.vm)) hZ hSq28.1
            have hown : (s.setVm T28.vm).vm.findClass "com/example/framebeat/framebeat/DisplayEventSetPinLaw" = some m.cls := by show T28.vm.findClass _ = _; rw [hSq28.1.alike.findClass]; exact hown
            have X28 : Stand p l e room_1 (s.setVm T28.vm) m #[(.int x0), (.long x1), (.long x2), (.long x3), (.int x4)] below meth c T28 _ _ _ := X28
            obtain ⟨rfl, N28q, E28⟩ := hQ28
            have N := Fr.app N N28q
            have E_b18 := E_b18.ext E28
            have F_kind_b18 := F_kind_b18.ext E28
            have F_displayId_b18 := F_displayId_b18.ext E28
            have F_timestampNanos_b18 := F_timestampNanos_b18.ext E28
            have F_value_b18 := F_value_b18.ext E28
            have F_substitute_b18 := F_substitute_b18.ext E28
            have F_synthetic_b18 := F_synthetic_b18.ext E28
            have O := own_ext_trans O E28
            refine own_tr (T' := T28) (F' := (mkF m 215 #[.val (.int x0), .val (.long x1), .second, .val (.long x2), .second, .val (.long x3), .second, .val (.int x4), .val (.int ((x0 &&& (2147483647 : Int32)) % (3 : Int32))), .val (.int (0 : Int32)), .val (.int (0 : Int32)), .val (.ref w_HOTPLUG), .val (.long (x3 &&& (1 : Int64))), .second, .val (.ref b18), .unset] [(.int (1 : Int32))])) st28 ?_
            refine own_st (T' := T28) (F' := (mkF m 217 #[.val (.int x0), .val (.long x1), .second, .val (.long x2), .second, .val (.long x3), .second, .val (.int x4), .val (.int ((x0 &&& (2147483647 : Int32)) % (3 : Int32))), .val (.int (0 : Int32)), .val (.int (0 : Int32)), .val (.ref w_HOTPLUG), .val (.long (x3 &&& (1 : Int64))), .second, .val (.ref b18), .unset] [(.long x3), (.int (1 : Int32))])) (fun t k => XS.lload X28.here hx rfl (hb hby at_215) rfl k) ?_
            refine own_st (T' := T28) (F' := (mkF m 218 #[.val (.int x0), .val (.long x1), .second, .val (.long x2), .second, .val (.long x3), .second, .val (.int x4), .val (.int ((x0 &&& (2147483647 : Int32)) % (3 : Int32))), .val (.int (0 : Int32)), .val (.int (0 : Int32)), .val (.ref w_HOTPLUG), .val (.long (x3 &&& (1 : Int64))), .second, .val (.ref b18), .unset] [(.long (1 : Int64)), (.long x3), (.int (1 : Int32))])) (fun t k => XS.lconst X28.here hx rfl (hb hby at_217) k) ?_
            refine own_st (T' := T28) (F' := (mkF m 219 #[.val (.int x0), .val (.long x1), .second, .val (.long x2), .second, .val (.long x3), .second, .val (.int x4), .val (.int ((x0 &&& (2147483647 : Int32)) % (3 : Int32))), .val (.int (0 : Int32)), .val (.int (0 : Int32)), .val (.ref w_HOTPLUG), .val (.long (x3 &&& (1 : Int64))), .second, .val (.ref b18), .unset] [(.long (x3 &&& (1 : Int64))), (.int (1 : Int32))])) (fun t k => XS.land X28.here hx rfl (hb hby at_218) rfl k) ?_
            refine own_st (T' := T28) (F' := (mkF m 220 #[.val (.int x0), .val (.long x1), .second, .val (.long x2), .second, .val (.long x3), .second, .val (.int x4), .val (.int ((x0 &&& (2147483647 : Int32)) % (3 : Int32))), .val (.int (0 : Int32)), .val (.int (0 : Int32)), .val (.ref w_HOTPLUG), .val (.long (x3 &&& (1 : Int64))), .second, .val (.ref b18), .unset] [(.long (0 : Int64)), (.long (x3 &&& (1 : Int64))), (.int (1 : Int32))])) (fun t k => XS.lconst X28.here hx rfl (hb hby at_219) k) ?_
            refine own_st (T' := T28) (F' := (mkF m 221 #[.val (.int x0), .val (.long x1), .second, .val (.long x2), .second, .val (.long x3), .second, .val (.int x4), .val (.int ((x0 &&& (2147483647 : Int32)) % (3 : Int32))), .val (.int (0 : Int32)), .val (.int (0 : Int32)), .val (.ref w_HOTPLUG), .val (.long (x3 &&& (1 : Int64))), .second, .val (.ref b18), .unset] [(.int (lcmpW (x3 &&& (1 : Int64)) (0 : Int64))), (.int (1 : Int32))])) (fun t k => XS.lcmp X28.here hx rfl (hb hby at_220) rfl k) ?_
            refine own_st (T' := T28) (F' := (mkF m 224 #[.val (.int x0), .val (.long x1), .second, .val (.long x2), .second, .val (.long x3), .second, .val (.int x4), .val (.int ((x0 &&& (2147483647 : Int32)) % (3 : Int32))), .val (.int (0 : Int32)), .val (.int (0 : Int32)), .val (.ref w_HOTPLUG), .val (.long (x3 &&& (1 : Int64))), .second, .val (.ref b18), .unset] [(.int (1 : Int32))])) (fun t k => XS.ifNo X28.here hx rfl (hb hby at_221) rfl ((if0 _ _).trans (feq hk0_26).1) k) ?_
            refine own_st (T' := T28) (F' := (mkF m 225 #[.val (.int x0), .val (.long x1), .second, .val (.long x2), .second, .val (.long x3), .second, .val (.int x4), .val (.int ((x0 &&& (2147483647 : Int32)) % (3 : Int32))), .val (.int (0 : Int32)), .val (.int (0 : Int32)), .val (.ref w_HOTPLUG), .val (.long (x3 &&& (1 : Int64))), .second, .val (.ref b18), .unset] [(.int (1 : Int32)), (.int (1 : Int32))])) (fun t k => XS.iconst X28.here hx rfl (hb hby at_224) k) ?_
            refine own_st (T' := T28) (F' := (mkF m 229 #[.val (.int x0), .val (.long x1), .second, .val (.long x2), .second, .val (.long x3), .second, .val (.int x4), .val (.int ((x0 &&& (2147483647 : Int32)) % (3 : Int32))), .val (.int (0 : Int32)), .val (.int (0 : Int32)), .val (.ref w_HOTPLUG), .val (.long (x3 &&& (1 : Int64))), .second, .val (.ref b18), .unset] [(.int (1 : Int32)), (.int (1 : Int32))])) (fun t k => XS.goto X28.here hx rfl (pc0 := 225) (pc' := 229) rfl (hb hby at_225) (by decide) (by decide) k) ?_
            refine own_st (T' := T28) (F' := (mkF m 232 #[.val (.int x0), .val (.long x1), .second, .val (.long x2), .second, .val (.long x3), .second, .val (.int x4), .val (.int ((x0 &&& (2147483647 : Int32)) % (3 : Int32))), .val (.int (0 : Int32)), .val (.int (0 : Int32)), .val (.ref w_HOTPLUG), .val (.long (x3 &&& (1 : Int64))), .second, .val (.ref b18), .unset] [])) (fun t k => XS.icmpNo X28.here hx rfl (hb hby at_229) rfl (teq rfl).2 k) ?_
            refine own_st (T' := T28) (F' := (mkF m 233 #[.val (.int x0), .val (.long x1), .second, .val (.long x2), .second, .val (.long x3), .second, .val (.int x4), .val (.int ((x0 &&& (2147483647 : Int32)) % (3 : Int32))), .val (.int (0 : Int32)), .val (.int (0 : Int32)), .val (.ref w_HOTPLUG), .val (.long (x3 &&& (1 : Int64))), .second, .val (.ref b18), .unset] [(.int (1 : Int32))])) (fun t k => XS.iconst X28.here hx rfl (hb hby at_232) k) ?_
            refine own_st (T' := T28) (F' := (mkF m 237 #[.val (.int x0), .val (.long x1), .second, .val (.long x2), .second, .val (.long x3), .second, .val (.int x4), .val (.int ((x0 &&& (2147483647 : Int32)) % (3 : Int32))), .val (.int (0 : Int32)), .val (.int (0 : Int32)), .val (.ref w_HOTPLUG), .val (.long (x3 &&& (1 : Int64))), .second, .val (.ref b18), .unset] [(.int (1 : Int32))])) (fun t k => XS.goto X28.here hx rfl (pc0 := 233) (pc' := 237) rfl (hb hby at_233) (by decide) (by decide) k) ?_
            refine own_st (T' := T28) (F' := (mkF m 239 #[.val (.int x0), .val (.long x1), .second, .val (.long x2), .second, .val (.long x3), .second, .val (.int x4), .val (.int ((x0 &&& (2147483647 : Int32)) % (3 : Int32))), .val (.int (0 : Int32)), .val (.int (0 : Int32)), .val (.ref w_HOTPLUG), .val (.long (x3 &&& (1 : Int64))), .second, .val (.ref b18), .val (.int (1 : Int32))] [])) (fun t k => XS.istore X28.here hx rfl (hb hby at_237) rfl (l' := #[.val (.int x0), .val (.long x1), .second, .val (.long x2), .second, .val (.long x3), .second, .val (.int x4), .val (.int ((x0 &&& (2147483647 : Int32)) % (3 : Int32))), .val (.int (0 : Int32)), .val (.int (0 : Int32)), .val (.ref w_HOTPLUG), .val (.long (x3 &&& (1 : Int64))), .second, .val (.ref b18), .val (.int (1 : Int32))]) rfl k) ?_
            refine own_st (T' := T28) (F' := (mkF m 260 #[.val (.int x0), .val (.long x1), .second, .val (.long x2), .second, .val (.long x3), .second, .val (.int x4), .val (.int ((x0 &&& (2147483647 : Int32)) % (3 : Int32))), .val (.int (0 : Int32)), .val (.int (0 : Int32)), .val (.ref w_HOTPLUG), .val (.long (x3 &&& (1 : Int64))), .second, .val (.ref b18), .val (.int (1 : Int32))] [])) (fun t k => XS.goto X28.here hx rfl (pc0 := 239) (pc' := 260) rfl (hb hby at_239) (by decide) (by decide) k) ?_
            refine own_st (T' := T28) (F' := (mkF m 262 #[.val (.int x0), .val (.long x1), .second, .val (.long x2), .second, .val (.long x3), .second, .val (.int x4), .val (.int ((x0 &&& (2147483647 : Int32)) % (3 : Int32))), .val (.int (0 : Int32)), .val (.int (0 : Int32)), .val (.ref w_HOTPLUG), .val (.long (x3 &&& (1 : Int64))), .second, .val (.ref b18), .val (.int (1 : Int32))] [(.int (1 : Int32))])) (fun t k => XS.iload X28.here hx rfl (hb hby at_260) rfl k) ?_
            exact own_retNW X28 hx (t := .boolean) Bd.returns (by simp) (by decide) hS hk (hb hby at_262) hlk (⟨rfl, N⟩) (by decide) (by decide)
        · refine own_st (T' := T4) (F' := (mkF m 79 #[.val (.int x0), .val (.long x1), .second, .val (.long x2), .second, .val (.long x3), .second, .val (.int x4), .val (.int ((x0 &&& (2147483647 : Int32)) % (3 : Int32))), .val (.int b9), .val (.int b10), .unset, .unset, .unset, .unset, .unset] [])) (fun t k => XS.icmpYes X4.here hx rfl (pc0 := 56) (pc' := 79) rfl (hb hby at_56) rfl (feq hc56_16).2 (by decide) (by decide) k) ?_
          obtain ⟨T29, X29, e29, st29⟩ := getS2 X4 hx hZ hown (host := "") (Or.inl (hw _ (List.mem_of_getElem? (i := 82) rfl))) Via.refl e4 (S_MODE.ext O) (g := (mkF m 79 #[.val (.int x0), .val (.long x1), .second, .val (.long x2), .second, .val (.long x3), .second, .val (.int x4), .val (.int ((x0 &&& (2147483647 : Int32)) % (3 : Int32))), .val (.int b9), .val (.int b10), .unset, .unset, .unset, .unset, .unset] [])) rfl (hb hby at_79)
          refine own_st (T' := T29) (F' := (mkF m 82 #[.val (.int x0), .val (.long x1), .second, .val (.long x2), .second, .val (.long x3), .second, .val (.int x4), .val (.int ((x0 &&& (2147483647 : Int32)) % (3 : Int32))), .val (.int b9), .val (.int b10), .unset, .unset, .unset, .unset, .unset] [(.ref w_MODE)])) st29 ?_
          refine own_st (T' := T29) (F' := (mkF m 84 #[.val (.int x0), .val (.long x1), .second, .val (.long x2), .second, .val (.long x3), .second, .val (.int x4), .val (.int ((x0 &&& (2147483647 : Int32)) % (3 : Int32))), .val (.int b9), .val (.int b10), .val (.ref w_MODE), .unset, .unset, .unset, .unset] [])) (fun t k => XS.astore X29.here hx rfl (hb hby at_82) rfl rfl (l' := #[.val (.int x0), .val (.long x1), .second, .val (.long x2), .second, .val (.long x3), .second, .val (.int x4), .val (.int ((x0 &&& (2147483647 : Int32)) % (3 : Int32))), .val (.int b9), .val (.int b10), .val (.ref w_MODE), .unset, .unset, .unset, .unset]) rfl k) ?_
          refine own_st (T' := T29) (F' := (mkF m 86 #[.val (.int x0), .val (.long x1), .second, .val (.long x2), .second, .val (.long x3), .second, .val (.int x4), .val (.int ((x0 &&& (2147483647 : Int32)) % (3 : Int32))), .val (.int b9), .val (.int b10), .val (.ref w_MODE), .unset, .unset, .unset, .unset] [(.long x3)])) (fun t k => XS.lload X29.here hx rfl (hb hby at_84) rfl k) ?_
          refine own_st (T' := T29) (F' := (mkF m 88 #[.val (.int x0), .val (.long x1), .second, .val (.long x2), .second, .val (.long x3), .second, .val (.int x4), .val (.int ((x0 &&& (2147483647 : Int32)) % (3 : Int32))), .val (.int b9), .val (.int b10), .val (.ref w_MODE), .val (.long x3), .second, .unset, .unset] [])) (fun t k => XS.lstore X29.here hx rfl (hb hby at_86) rfl (l' := #[.val (.int x0), .val (.long x1), .second, .val (.long x2), .second, .val (.long x3), .second, .val (.int x4), .val (.int ((x0 &&& (2147483647 : Int32)) % (3 : Int32))), .val (.int b9), .val (.int b10), .val (.ref w_MODE), .val (.long x3), .second, .unset, .unset]) rfl k) ?_
          refine own_st (T' := T29) (F' := (mkF m 89 #[.val (.int x0), .val (.long x1), .second, .val (.long x2), .second, .val (.long x3), .second, .val (.int x4), .val (.int ((x0 &&& (2147483647 : Int32)) % (3 : Int32))), .val (.int b9), .val (.int b10), .val (.ref w_MODE), .val (.long x3), .second, .unset, .unset] [(.int (0 : Int32))])) (fun t k => XS.iconst X29.here hx rfl (hb hby at_88) k) ?_
          refine own_st (T' := T29) (F' := (mkF m 91 #[.val (.int x0), .val (.long x1), .second, .val (.long x2), .second, .val (.long x3), .second, .val (.int x4), .val (.int ((x0 &&& (2147483647 : Int32)) % (3 : Int32))), .val (.int (0 : Int32)), .val (.int b10), .val (.ref w_MODE), .val (.long x3), .second, .unset, .unset] [])) (fun t k => XS.istore X29.here hx rfl (hb hby at_89) rfl (l' := #[.val (.int x0), .val (.long x1), .second, .val (.long x2), .second, .val (.long x3), .second, .val (.int x4), .val (.int ((x0 &&& (2147483647 : Int32)) % (3 : Int32))), .val (.int (0 : Int32)), .val (.int b10), .val (.ref w_MODE), .val (.long x3), .second, .unset, .unset]) rfl k) ?_
          refine own_st (T' := T29) (F' := (mkF m 92 #[.val (.int x0), .val (.long x1), .second, .val (.long x2), .second, .val (.long x3), .second, .val (.int x4), .val (.int ((x0 &&& (2147483647 : Int32)) % (3 : Int32))), .val (.int (0 : Int32)), .val (.int b10), .val (.ref w_MODE), .val (.long x3), .second, .unset, .unset] [(.int (0 : Int32))])) (fun t k => XS.iconst X29.here hx rfl (hb hby at_91) k) ?_
          refine own_st (T' := T29) (F' := (mkF m 94 #[.val (.int x0), .val (.long x1), .second, .val (.long x2), .second, .val (.long x3), .second, .val (.int x4), .val (.int ((x0 &&& (2147483647 : Int32)) % (3 : Int32))), .val (.int (0 : Int32)), .val (.int (0 : Int32)), .val (.ref w_MODE), .val (.long x3), .second, .unset, .unset] [])) (fun t k => XS.istore X29.here hx rfl (hb hby at_92) rfl (l' := #[.val (.int x0), .val (.long x1), .second, .val (.long x2), .second, .val (.long x3), .second, .val (.int x4), .val (.int ((x0 &&& (2147483647 : Int32)) % (3 : Int32))), .val (.int (0 : Int32)), .val (.int (0 : Int32)), .val (.ref w_MODE), .val (.long x3), .second, .unset, .unset]) rfl k) ?_
          obtain ⟨T30, h30, X30, e30, E30, A30, D30, U30, st30⟩ := newO X29 hx hZ hown (hw _ (List.mem_of_getElem? (i := 4) rfl)) (hw _ (List.mem_of_getElem? (i := 5) rfl)) (hw _ (List.mem_of_getElem? (i := 6) rfl)) e29 (g := (mkF m 94 #[.val (.int x0), .val (.long x1), .second, .val (.long x2), .second, .val (.long x3), .second, .val (.int x4), .val (.int ((x0 &&& (2147483647 : Int32)) % (3 : Int32))), .val (.int (0 : Int32)), .val (.int (0 : Int32)), .val (.ref w_MODE), .val (.long x3), .second, .unset, .unset] [])) rfl (hb hby at_94) (by decide) (by decide)
          obtain ⟨b30, g30⟩ : ∃ z, z = h0.size := ⟨_, rfl⟩
          rw [← g30] at A30 D30 U30 st30
          have g_b30 : Z.heap.size ≤ b30 := Nat.le_trans O.1 (Nat.le_of_eq g30.symm)
          have O := own_ext_trans O E30
          have hk := Nat.le_trans hk E30.1
          have E_b30 := A30
          have F_kind_b30 : Fld Z h30 b30 "com/example/framebeat/framebeat/DisplayEvent" "kind" "Lcom/example/framebeat/framebeat/DisplayEvent$Kind;" .null := D30 (Or.inl (hw _ (List.mem_of_getElem? (i := 15) rfl))) (ty := (.object "com/example/framebeat/framebeat/DisplayEvent$Kind")) (by decide)
          have F_displayId_b30 : Fld Z h30 b30 "com/example/framebeat/framebeat/DisplayEvent" "displayId" "J" (.long (0 : Int64)) := D30 (Or.inl (hw _ (List.mem_of_getElem? (i := 22) rfl))) (ty := .long) (by decide)
          have F_timestampNanos_b30 : Fld Z h30 b30 "com/example/framebeat/framebeat/DisplayEvent" "timestampNanos" "J" (.long (0 : Int64)) := D30 (Or.inl (hw _ (List.mem_of_getElem? (i := 24) rfl))) (ty := .long) (by decide)
          have F_value_b30 : Fld Z h30 b30 "com/example/framebeat/framebeat/DisplayEvent" "value" "J" (.long (0 : Int64)) := D30 (Or.inl (hw _ (List.mem_of_getElem? (i := 26) rfl))) (ty := .long) (by decide)
          have F_substitute_b30 : Fld Z h30 b30 "com/example/framebeat/framebeat/DisplayEvent" "substitute" "Z" (.int (0 : Int32)) := D30 (Or.inl (hw _ (List.mem_of_getElem? (i := 28) rfl))) (ty := .boolean) (by decide)
          have F_synthetic_b30 : Fld Z h30 b30 "com/example/framebeat/framebeat/DisplayEvent" "synthetic" "Z" (.int (0 : Int32)) := D30 (Or.inl (hw _ (List.mem_of_getElem? (i := 30) rfl))) (ty := .boolean) (by decide)
          refine own_st (T' := T30) (F' := (mkF m 97 #[.val (.int x0), .val (.long x1), .second, .val (.long x2), .second, .val (.long x3), .second, .val (.int x4), .val (.int ((x0 &&& (2147483647 : Int32)) % (3 : Int32))), .val (.int (0 : Int32)), .val (.int (0 : Int32)), .val (.ref w_MODE), .val (.long x3), .second, .unset, .unset] [(.ref b30)])) st30 ?_
          refine own_st (T' := T30) (F' := (mkF m 98 #[.val (.int x0), .val (.long x1), .second, .val (.long x2), .second, .val (.long x3), .second, .val (.int x4), .val (.int ((x0 &&& (2147483647 : Int32)) % (3 : Int32))), .val (.int (0 : Int32)), .val (.int (0 : Int32)), .val (.ref w_MODE), .val (.long x3), .second, .unset, .unset] [(.ref b30), (.ref b30)])) (fun t k => XS.dup X30.here hx rfl (hb hby at_97) rfl rfl k) ?_
          obtain ⟨v31, _, ⟨T31, L31, k31, n31⟩, -, X31, ⟨Lc31, hQ31, l31, y31, z31⟩, st31⟩ := X30.specialBack hx (y := (⟨"com/example/framebeat/framebeat/DisplayEvent", "<init>", "()V"⟩ : MethodName)) rfl hown (mvT hZ (hw _ (List.mem_of_getElem? (i := 7) rfl))) (mvT hZ (hw _ (List.mem_of_getElem? (i := 8) rfl))) (mvT hZ (hw _ (List.mem_of_getElem? (i := 9) rfl))) (by decide) (backOf (W := 1) (rm1 l Z a0 CX [] b30 .null rfl (0 : Int64) (0 : Int64) (0 : Int64) (0 : Int32) (Or.inl rfl) (0 : Int32) (Or.inl rfl) h30 O E_b30 g_b30 F_kind_b30 F_displayId_b30 F_timestampNanos_b30 F_value_b30 F_substitute_b30 F_synthetic_b30) hZ (hw _ (List.mem_of_getElem? (i := 9) rfl)) (hw _ (List.mem_of_getElem? (i := 6) rfl)) (by decide) (by decide)) (g := (mkF m 98 #[.val (.int x0), .val (.long x1), .second, .val (.long x2), .second, .val (.long x3), .second, .val (.int x4), .val (.int ((x0 &&& (2147483647 : Int32)) % (3 : Int32))), .val (.int (0 : Int32)), .val (.int (0 : Int32)), .val (.ref w_MODE), .val (.long x3), .second, .unset, .unset] [(.ref b30), (.ref b30)])) rfl (by rw [hml]; rfl) (Steps.refl _) (a := b30) (argsL := []) (rest := [(.ref b30)]) (lenOf pd_1 rfl) rfl (by show 2 * 0 + _ ≤ _; exact Nat.le_of_eq rfl) (hb hby at_98) (fun _ _ => ⟨rfl, e30, (by decide : 1 + 0 ≤ _), (by decide : 6 + 0 ≤ _)⟩)
          dsimp only [Pt.U, Pt.locs, Pt.cells, Pt.slots] at X31 l31 y31 z31 st31 hQ31
          subst l31 y31 z31
          obtain ⟨rfl, N31q, K31, F_kind_b30, F_displayId_b30, F_timestampNanos_b30, F_value_b30, F_substitute_b30, F_synthetic_b30⟩ := hQ31
          have N := Fr.app N N31q
          have E_b30 := E_b30.keep K31
          have O := own_O_keep O K31 (allS g_b30 all0)
          have hk := Nat.le_trans hk K31.1
          refine own_tr (T' := T31) (F' := (mkF m 101 #[.val (.int x0), .val (.long x1), .second, .val (.long x2), .second, .val (.long x3), .second, .val (.int x4), .val (.int ((x0 &&& (2147483647 : Int32)) % (3 : Int32))), .val (.int (0 : Int32)), .val (.int (0 : Int32)), .val (.ref w_MODE), .val (.long x3), .second, .unset, .unset] [(.ref b30)])) st31 ?_
          refine own_st (T' := T31) (F' := (mkF m 103 #[.val (.int x0), .val (.long x1), .second, .val (.long x2), .second, .val (.long x3), .second, .val (.int x4), .val (.int ((x0 &&& (2147483647 : Int32)) % (3 : Int32))), .val (.int (0 : Int32)), .val (.int (0 : Int32)), .val (.ref w_MODE), .val (.long x3), .second, .val (.ref b30), .unset] [])) (fun t k => XS.astore X31.here hx rfl (hb hby at_101) rfl rfl (l' := #[.val (.int x0), .val (.long x1), .second, .val (.long x2), .second, .val (.long x3), .second, .val (.int x4), .val (.int ((x0 &&& (2147483647 : Int32)) % (3 : Int32))), .val (.int (0 : Int32)), .val (.int (0 : Int32)), .val (.ref w_MODE), .val (.long x3), .second, .val (.ref b30), .unset]) rfl k) ?_
          refine own_st (T' := T31) (F' := (mkF m 105 #[.val (.int x0), .val (.long x1), .second, .val (.long x2), .second, .val (.long x3), .second, .val (.int x4), .val (.int ((x0 &&& (2147483647 : Int32)) % (3 : Int32))), .val (.int (0 : Int32)), .val (.int (0 : Int32)), .val (.ref w_MODE), .val (.long x3), .second, .val (.ref b30), .unset] [(.ref b30)])) (fun t k => XS.aload X31.here hx rfl (hb hby at_103) rfl rfl k) ?_
          refine own_st (T' := T31) (F' := (mkF m 107 #[.val (.int x0), .val (.long x1), .second, .val (.long x2), .second, .val (.long x3), .second, .val (.int x4), .val (.int ((x0 &&& (2147483647 : Int32)) % (3 : Int32))), .val (.int (0 : Int32)), .val (.int (0 : Int32)), .val (.ref w_MODE), .val (.long x3), .second, .val (.ref b30), .unset] [(.ref w_MODE), (.ref b30)])) (fun t k => XS.aload X31.here hx rfl (hb hby at_105) rfl rfl k) ?_
          refine own_st (T' := T31) (F' := (mkF m 108 #[.val (.int x0), .val (.long x1), .second, .val (.long x2), .second, .val (.long x3), .second, .val (.int x4), .val (.int ((x0 &&& (2147483647 : Int32)) % (3 : Int32))), .val (.int (0 : Int32)), .val (.int (0 : Int32)), .val (.ref w_MODE), .val (.long x3), .second, .val (.ref b30), .unset] [(.long x1), (.ref w_MODE), (.ref b30)])) (fun t k => XS.lloadN X31.here hx rfl (hb hby at_107) rfl k) ?_
          refine own_st (T' := T31) (F' := (mkF m 109 #[.val (.int x0), .val (.long x1), .second, .val (.long x2), .second, .val (.long x3), .second, .val (.int x4), .val (.int ((x0 &&& (2147483647 : Int32)) % (3 : Int32))), .val (.int (0 : Int32)), .val (.int (0 : Int32)), .val (.ref w_MODE), .val (.long x3), .second, .val (.ref b30), .unset] [(.long x2), (.long x1), (.ref w_MODE), (.ref b30)])) (fun t k => XS.lloadN X31.here hx rfl (hb hby at_108) rfl k) ?_
          refine own_st (T' := T31) (F' := (mkF m 111 #[.val (.int x0), .val (.long x1), .second, .val (.long x2), .second, .val (.long x3), .second, .val (.int x4), .val (.int ((x0 &&& (2147483647 : Int32)) % (3 : Int32))), .val (.int (0 : Int32)), .val (.int (0 : Int32)), .val (.ref w_MODE), .val (.long x3), .second, .val (.ref b30), .unset] [(.long x3), (.long x2), (.long x1), (.ref w_MODE), (.ref b30)])) (fun t k => XS.lload X31.here hx rfl (hb hby at_109) rfl k) ?_
          refine own_st (T' := T31) (F' := (mkF m 113 #[.val (.int x0), .val (.long x1), .second, .val (.long x2), .second, .val (.long x3), .second, .val (.int x4), .val (.int ((x0 &&& (2147483647 : Int32)) % (3 : Int32))), .val (.int (0 : Int32)), .val (.int (0 : Int32)), .val (.ref w_MODE), .val (.long x3), .second, .val (.ref b30), .unset] [(.int (0 : Int32)), (.long x3), (.long x2), (.long x1), (.ref w_MODE), (.ref b30)])) (fun t k => XS.iload X31.here hx rfl (hb hby at_111) rfl k) ?_
          refine own_st (T' := T31) (F' := (mkF m 115 #[.val (.int x0), .val (.long x1), .second, .val (.long x2), .second, .val (.long x3), .second, .val (.int x4), .val (.int ((x0 &&& (2147483647 : Int32)) % (3 : Int32))), .val (.int (0 : Int32)), .val (.int (0 : Int32)), .val (.ref w_MODE), .val (.long x3), .second, .val (.ref b30), .unset] [(.int (0 : Int32)), (.int (0 : Int32)), (.long x3), (.long x2), (.long x1), (.ref w_MODE), (.ref b30)])) (fun t k => XS.iload X31.here hx rfl (hb hby at_113) rfl k) ?_
          obtain ⟨cq32, kq32, q32a, q32b, q32c⟩ := isOf hZ rfl E_b30
          obtain ⟨v32, _, ⟨T32, L32, k32, n32⟩, -, X32, ⟨Lc32, hQ32, l32, y32, z32⟩, st32⟩ := X31.virtualBack hx (y := (⟨"com/example/framebeat/framebeat/DisplayEvent", "set", "(Lcom/example/framebeat/framebeat/DisplayEvent$Kind;JJJZZ)V"⟩ : MethodName)) (z := (⟨"com/example/framebeat/framebeat/DisplayEvent", "set", "(Lcom/example/framebeat/framebeat/DisplayEvent$Kind;JJJZZ)V"⟩ : MethodName)) hown (mvT hZ (hw _ (List.mem_of_getElem? (i := 16) rfl))) (mvT hZ (hw _ (List.mem_of_getElem? (i := 17) rfl))) (notFace_of_selects (args := #[]) (mvT hZ (hw _ (List.mem_of_getElem? (i := 19) rfl)))) (mvT hZ (hw _ (List.mem_of_getElem? (i := 19) rfl))) (mvT hZ (hw _ (List.mem_of_getElem? (i := 18) rfl))) (by decide) (backOf (W := 0) (rm3 l Z a0 CX [] b30 (.ref w_MODE) rfl x1 x2 x3 (0 : Int32) (Or.inl rfl) (0 : Int32) (Or.inl rfl) (.ref w_VSYNC) rfl (0 : Int64) (0 : Int64) (0 : Int64) (0 : Int32) (Or.inl rfl) (0 : Int32) (Or.inl rfl) T31.heap O E_b30 g_b30 F_kind_b30 F_displayId_b30 F_timestampNanos_b30 F_value_b30 F_substitute_b30 F_synthetic_b30) hZ (hw _ (List.mem_of_getElem? (i := 20) rfl)) (hw _ (List.mem_of_getElem? (i := 6) rfl)) (by decide) (by decide)) q32a q32c (g := (mkF m 115 #[.val (.int x0), .val (.long x1), .second, .val (.long x2), .second, .val (.long x3), .second, .val (.int x4), .val (.int ((x0 &&& (2147483647 : Int32)) % (3 : Int32))), .val (.int (0 : Int32)), .val (.int (0 : Int32)), .val (.ref w_MODE), .val (.long x3), .second, .val (.ref b30), .unset] [(.int (0 : Int32)), (.int (0 : Int32)), (.long x3), (.long x2), (.long x1), (.ref w_MODE), (.ref b30)])) rfl (by rw [hml]; rfl) (Steps.refl _) (argsL := [(.ref w_MODE), (.long x1), (.long x2), (.long x3), (.int (0 : Int32)), (.int (0 : Int32))]) (rest := []) (lenOf pd_2 rfl) rfl (by show 2 * 0 + _ ≤ _; exact Nat.le_of_eq rfl) (hb hby at_115) (fun _ _ => ⟨rfl, rfl, (by decide : 1 + 0 ≤ _), (by decide : 6 + 0 ≤ _)⟩)
          dsimp only [Pt.U, Pt.locs, Pt.cells, Pt.slots] at X32 l32 y32 z32 st32 hQ32
          subst l32 y32 z32
          obtain ⟨rfl, N32q, K32, F_kind_b30, F_displayId_b30, F_timestampNanos_b30, F_value_b30, F_substitute_b30, F_synthetic_b30⟩ := hQ32
          have N := Fr.app N N32q
          have E_b30 := E_b30.keep K32
          have O := own_O_keep O K32 (allS g_b30 all0)
          have hk := Nat.le_trans hk K32.1
          refine own_tr (T' := T32) (F' := (mkF m 118 #[.val (.int x0), .val (.long x1), .second, .val (.long x2), .second, .val (.long x3), .second, .val (.int x4), .val (.int ((x0 &&& (2147483647 : Int32)) % (3 : Int32))), .val (.int (0 : Int32)), .val (.int (0 : Int32)), .val (.ref w_MODE), .val (.long x3), .second, .val (.ref b30), .unset] [])) st32 ?_
          refine own_st (T' := T32) (F' := (mkF m 120 #[.val (.int x0), .val (.long x1), .second, .val (.long x2), .second, .val (.long x3), .second, .val (.int x4), .val (.int ((x0 &&& (2147483647 : Int32)) % (3 : Int32))), .val (.int (0 : Int32)), .val (.int (0 : Int32)), .val (.ref w_MODE), .val (.long x3), .second, .val (.ref b30), .unset] [(.ref b30)])) (fun t k => XS.aload X32.here hx rfl (hb hby at_118) rfl rfl k) ?_
          obtain ⟨cq33, kq33, q33a, q33b, q33c⟩ := isOf hZ rfl E_b30
          obtain ⟨v33, _, ⟨T33, L33, k33, n33⟩, -, X33, ⟨Lc33, hQ33, l33, y33, z33⟩, st33⟩ := X32.virtualBack hx (y := (⟨"com/example/framebeat/framebeat/DisplayEvent", "kind", "()Lcom/example/framebeat/framebeat/DisplayEvent$Kind;"⟩ : MethodName)) (z := (⟨"com/example/framebeat/framebeat/DisplayEvent", "kind", "()Lcom/example/framebeat/framebeat/DisplayEvent$Kind;"⟩ : MethodName)) hown (mvT hZ (hw _ (List.mem_of_getElem? (i := 31) rfl))) (mvT hZ (hw _ (List.mem_of_getElem? (i := 32) rfl))) (notFace_of_selects (args := #[]) (mvT hZ (hw _ (List.mem_of_getElem? (i := 34) rfl)))) (mvT hZ (hw _ (List.mem_of_getElem? (i := 34) rfl))) (mvT hZ (hw _ (List.mem_of_getElem? (i := 33) rfl))) (by decide) (backOf (W := 0) (rm4 l Z a0 CX [] b30 (.ref w_MODE) rfl T32.heap O F_kind_b30) hZ (hw _ (List.mem_of_getElem? (i := 35) rfl)) (hw _ (List.mem_of_getElem? (i := 6) rfl)) (by decide) (by decide)) q33a q33c (g := (mkF m 120 #[.val (.int x0), .val (.long x1), .second, .val (.long x2), .second, .val (.long x3), .second, .val (.int x4), .val (.int ((x0 &&& (2147483647 : Int32)) % (3 : Int32))), .val (.int (0 : Int32)), .val (.int (0 : Int32)), .val (.ref w_MODE), .val (.long x3), .second, .val (.ref b30), .unset] [(.ref b30)])) rfl (by rw [hml]; rfl) (Steps.refl _) (argsL := []) (rest := []) (lenOf pd_3 rfl) rfl (by show 2 * 0 + _ ≤ _; exact Nat.le_of_eq rfl) (hb hby at_120) (fun _ _ => ⟨rfl, rfl, (by decide : 1 + 0 ≤ _), (by decide : 6 + 0 ≤ _)⟩)
          dsimp only [Pt.U, Pt.locs, Pt.cells, Pt.slots] at X33 l33 y33 z33 st33 hQ33
          subst l33 y33 z33
          obtain ⟨rfl, N33q, e33⟩ := hQ33
          have N := Fr.app N N33q
          refine own_tr (T' := T33) (F' := (mkF m 123 #[.val (.int x0), .val (.long x1), .second, .val (.long x2), .second, .val (.long x3), .second, .val (.int x4), .val (.int ((x0 &&& (2147483647 : Int32)) % (3 : Int32))), .val (.int (0 : Int32)), .val (.int (0 : Int32)), .val (.ref w_MODE), .val (.long x3), .second, .val (.ref b30), .unset] [(.ref w_MODE)])) st33 ?_
          refine own_st (T' := T33) (F' := (mkF m 125 #[.val (.int x0), .val (.long x1), .second, .val (.long x2), .second, .val (.long x3), .second, .val (.int x4), .val (.int ((x0 &&& (2147483647 : Int32)) % (3 : Int32))), .val (.int (0 : Int32)), .val (.int (0 : Int32)), .val (.ref w_MODE), .val (.long x3), .second, .val (.ref b30), .unset] [(.ref w_MODE), (.ref w_MODE)])) (fun t k => XS.aload X33.here hx rfl (hb hby at_123) rfl rfl k) ?_
          refine own_st (T' := T33) (F' := (mkF m 130 #[.val (.int x0), .val (.long x1), .second, .val (.long x2), .second, .val (.long x3), .second, .val (.int x4), .val (.int ((x0 &&& (2147483647 : Int32)) % (3 : Int32))), .val (.int (0 : Int32)), .val (.int (0 : Int32)), .val (.ref w_MODE), .val (.long x3), .second, .val (.ref b30), .unset] [])) (fun t k => Jvm.RoadKit.acmp (g := (mkF m 125 #[.val (.int x0), .val (.long x1), .second, .val (.long x2), .second, .val (.long x3), .second, .val (.int x4), .val (.int ((x0 &&& (2147483647 : Int32)) % (3 : Int32))), .val (.int (0 : Int32)), .val (.int (0 : Int32)), .val (.ref w_MODE), .val (.long x3), .second, .val (.ref b30), .unset] [(.ref w_MODE), (.ref w_MODE)])) X33 hx rfl rfl rfl (pc0 := 125) (pc' := 130) (same := true) rfl (hb hby at_125) rfl (decide_eq_true rfl) (by decide) (by decide) k) ?_
          refine own_st (T' := T33) (F' := (mkF m 132 #[.val (.int x0), .val (.long x1), .second, .val (.long x2), .second, .val (.long x3), .second, .val (.int x4), .val (.int ((x0 &&& (2147483647 : Int32)) % (3 : Int32))), .val (.int (0 : Int32)), .val (.int (0 : Int32)), .val (.ref w_MODE), .val (.long x3), .second, .val (.ref b30), .unset] [(.ref b30)])) (fun t k => XS.aload X33.here hx rfl (hb hby at_130) rfl rfl k) ?_
          obtain ⟨cq34, kq34, q34a, q34b, q34c⟩ := isOf hZ e33 E_b30
          obtain ⟨v34, _, ⟨T34, L34, k34, n34⟩, -, X34, ⟨Lc34, hQ34, l34, y34, z34⟩, st34⟩ := X33.virtualBack hx (y := (⟨"com/example/framebeat/framebeat/DisplayEvent", "displayId", "()J"⟩ : MethodName)) (z := (⟨"com/example/framebeat/framebeat/DisplayEvent", "displayId", "()J"⟩ : MethodName)) hown (mvT hZ (hw _ (List.mem_of_getElem? (i := 36) rfl))) (mvT hZ (hw _ (List.mem_of_getElem? (i := 37) rfl))) (notFace_of_selects (args := #[]) (mvT hZ (hw _ (List.mem_of_getElem? (i := 39) rfl)))) (mvT hZ (hw _ (List.mem_of_getElem? (i := 39) rfl))) (mvT hZ (hw _ (List.mem_of_getElem? (i := 38) rfl))) (by decide) (backOf (W := 0) (rm5 l Z a0 CX [] b30 x1 T32.heap O F_displayId_b30) hZ (hw _ (List.mem_of_getElem? (i := 40) rfl)) (hw _ (List.mem_of_getElem? (i := 6) rfl)) (by decide) (by decide)) q34a q34c (g := (mkF m 132 #[.val (.int x0), .val (.long x1), .second, .val (.long x2), .second, .val (.long x3), .second, .val (.int x4), .val (.int ((x0 &&& (2147483647 : Int32)) % (3 : Int32))), .val (.int (0 : Int32)), .val (.int (0 : Int32)), .val (.ref w_MODE), .val (.long x3), .second, .val (.ref b30), .unset] [(.ref b30)])) rfl (by rw [hml]; rfl) (Steps.refl _) (argsL := []) (rest := []) (lenOf pd_4 rfl) rfl (by show 2 * 0 + _ ≤ _; exact Nat.le_of_eq rfl) (hb hby at_132) (fun _ _ => ⟨rfl, e33, (by decide : 1 + 0 ≤ _), (by decide : 6 + 0 ≤ _)⟩)
          dsimp only [Pt.U, Pt.locs, Pt.cells, Pt.slots] at X34 l34 y34 z34 st34 hQ34
          subst l34 y34 z34
          obtain ⟨rfl, N34q, e34⟩ := hQ34
          have N := Fr.app N N34q
          refine own_tr (T' := T34) (F' := (mkF m 135 #[.val (.int x0), .val (.long x1), .second, .val (.long x2), .second, .val (.long x3), .second, .val (.int x4), .val (.int ((x0 &&& (2147483647 : Int32)) % (3 : Int32))), .val (.int (0 : Int32)), .val (.int (0 : Int32)), .val (.ref w_MODE), .val (.long x3), .second, .val (.ref b30), .unset] [(.long x1)])) st34 ?_
          refine own_st (T' := T34) (F' := (mkF m 136 #[.val (.int x0), .val (.long x1), .second, .val (.long x2), .second, .val (.long x3), .second, .val (.int x4), .val (.int ((x0 &&& (2147483647 : Int32)) % (3 : Int32))), .val (.int (0 : Int32)), .val (.int (0 : Int32)), .val (.ref w_MODE), .val (.long x3), .second, .val (.ref b30), .unset] [(.long x1), (.long x1)])) (fun t k => XS.lloadN X34.here hx rfl (hb hby at_135) rfl k) ?_
          refine own_st (T' := T34) (F' := (mkF m 137 #[.val (.int x0), .val (.long x1), .second, .val (.long x2), .second, .val (.long x3), .second, .val (.int x4), .val (.int ((x0 &&& (2147483647 : Int32)) % (3 : Int32))), .val (.int (0 : Int32)), .val (.int (0 : Int32)), .val (.ref w_MODE), .val (.long x3), .second, .val (.ref b30), .unset] [(.int (lcmpW x1 x1))])) (fun t k => XS.lcmp X34.here hx rfl (hb hby at_136) rfl k) ?_
          refine own_st (T' := T34) (F' := (mkF m 142 #[.val (.int x0), .val (.long x1), .second, .val (.long x2), .second, .val (.long x3), .second, .val (.int x4), .val (.int ((x0 &&& (2147483647 : Int32)) % (3 : Int32))), .val (.int (0 : Int32)), .val (.int (0 : Int32)), .val (.ref w_MODE), .val (.long x3), .second, .val (.ref b30), .unset] [])) (fun t k => XS.ifYes X34.here hx rfl (pc0 := 137) (pc' := 142) rfl (hb hby at_137) rfl ((if0 _ _).trans (teq ((lw_eq _ _).mpr rfl)).1) (by decide) (by decide) k) ?_
          refine own_st (T' := T34) (F' := (mkF m 144 #[.val (.int x0), .val (.long x1), .second, .val (.long x2), .second, .val (.long x3), .second, .val (.int x4), .val (.int ((x0 &&& (2147483647 : Int32)) % (3 : Int32))), .val (.int (0 : Int32)), .val (.int (0 : Int32)), .val (.ref w_MODE), .val (.long x3), .second, .val (.ref b30), .unset] [(.ref b30)])) (fun t k => XS.aload X34.here hx rfl (hb hby at_142) rfl rfl k) ?_
          obtain ⟨cq35, kq35, q35a, q35b, q35c⟩ := isOf hZ e34 E_b30
          obtain ⟨v35, _, ⟨T35, L35, k35, n35⟩, -, X35, ⟨Lc35, hQ35, l35, y35, z35⟩, st35⟩ := X34.virtualBack hx (y := (⟨"com/example/framebeat/framebeat/DisplayEvent", "timestampNanos", "()J"⟩ : MethodName)) (z := (⟨"com/example/framebeat/framebeat/DisplayEvent", "timestampNanos", "()J"⟩ : MethodName)) hown (mvT hZ (hw _ (List.mem_of_getElem? (i := 41) rfl))) (mvT hZ (hw _ (List.mem_of_getElem? (i := 42) rfl))) (notFace_of_selects (args := #[]) (mvT hZ (hw _ (List.mem_of_getElem? (i := 44) rfl)))) (mvT hZ (hw _ (List.mem_of_getElem? (i := 44) rfl))) (mvT hZ (hw _ (List.mem_of_getElem? (i := 43) rfl))) (by decide) (backOf (W := 0) (rm6 l Z a0 CX [] b30 x2 T32.heap O F_timestampNanos_b30) hZ (hw _ (List.mem_of_getElem? (i := 45) rfl)) (hw _ (List.mem_of_getElem? (i := 6) rfl)) (by decide) (by decide)) q35a q35c (g := (mkF m 144 #[.val (.int x0), .val (.long x1), .second, .val (.long x2), .second, .val (.long x3), .second, .val (.int x4), .val (.int ((x0 &&& (2147483647 : Int32)) % (3 : Int32))), .val (.int (0 : Int32)), .val (.int (0 : Int32)), .val (.ref w_MODE), .val (.long x3), .second, .val (.ref b30), .unset] [(.ref b30)])) rfl (by rw [hml]; rfl) (Steps.refl _) (argsL := []) (rest := []) (lenOf pd_4 rfl) rfl (by show 2 * 0 + _ ≤ _; exact Nat.le_of_eq rfl) (hb hby at_144) (fun _ _ => ⟨rfl, e34, (by decide : 1 + 0 ≤ _), (by decide : 6 + 0 ≤ _)⟩)
          dsimp only [Pt.U, Pt.locs, Pt.cells, Pt.slots] at X35 l35 y35 z35 st35 hQ35
          subst l35 y35 z35
          obtain ⟨rfl, N35q, e35⟩ := hQ35
          have N := Fr.app N N35q
          refine own_tr (T' := T35) (F' := (mkF m 147 #[.val (.int x0), .val (.long x1), .second, .val (.long x2), .second, .val (.long x3), .second, .val (.int x4), .val (.int ((x0 &&& (2147483647 : Int32)) % (3 : Int32))), .val (.int (0 : Int32)), .val (.int (0 : Int32)), .val (.ref w_MODE), .val (.long x3), .second, .val (.ref b30), .unset] [(.long x2)])) st35 ?_
          refine own_st (T' := T35) (F' := (mkF m 148 #[.val (.int x0), .val (.long x1), .second, .val (.long x2), .second, .val (.long x3), .second, .val (.int x4), .val (.int ((x0 &&& (2147483647 : Int32)) % (3 : Int32))), .val (.int (0 : Int32)), .val (.int (0 : Int32)), .val (.ref w_MODE), .val (.long x3), .second, .val (.ref b30), .unset] [(.long x2), (.long x2)])) (fun t k => XS.lloadN X35.here hx rfl (hb hby at_147) rfl k) ?_
          refine own_st (T' := T35) (F' := (mkF m 149 #[.val (.int x0), .val (.long x1), .second, .val (.long x2), .second, .val (.long x3), .second, .val (.int x4), .val (.int ((x0 &&& (2147483647 : Int32)) % (3 : Int32))), .val (.int (0 : Int32)), .val (.int (0 : Int32)), .val (.ref w_MODE), .val (.long x3), .second, .val (.ref b30), .unset] [(.int (lcmpW x2 x2))])) (fun t k => XS.lcmp X35.here hx rfl (hb hby at_148) rfl k) ?_
          refine own_st (T' := T35) (F' := (mkF m 154 #[.val (.int x0), .val (.long x1), .second, .val (.long x2), .second, .val (.long x3), .second, .val (.int x4), .val (.int ((x0 &&& (2147483647 : Int32)) % (3 : Int32))), .val (.int (0 : Int32)), .val (.int (0 : Int32)), .val (.ref w_MODE), .val (.long x3), .second, .val (.ref b30), .unset] [])) (fun t k => XS.ifYes X35.here hx rfl (pc0 := 149) (pc' := 154) rfl (hb hby at_149) rfl ((if0 _ _).trans (teq ((lw_eq _ _).mpr rfl)).1) (by decide) (by decide) k) ?_
          refine own_st (T' := T35) (F' := (mkF m 156 #[.val (.int x0), .val (.long x1), .second, .val (.long x2), .second, .val (.long x3), .second, .val (.int x4), .val (.int ((x0 &&& (2147483647 : Int32)) % (3 : Int32))), .val (.int (0 : Int32)), .val (.int (0 : Int32)), .val (.ref w_MODE), .val (.long x3), .second, .val (.ref b30), .unset] [(.ref b30)])) (fun t k => XS.aload X35.here hx rfl (hb hby at_154) rfl rfl k) ?_
          obtain ⟨cq36, kq36, q36a, q36b, q36c⟩ := isOf hZ e35 E_b30
          obtain ⟨v36, _, ⟨T36, L36, k36, n36⟩, -, X36, ⟨Lc36, hQ36, l36, y36, z36⟩, st36⟩ := X35.virtualBack hx (y := (⟨"com/example/framebeat/framebeat/DisplayEvent", "isSubstitute", "()Z"⟩ : MethodName)) (z := (⟨"com/example/framebeat/framebeat/DisplayEvent", "isSubstitute", "()Z"⟩ : MethodName)) hown (mvT hZ (hw _ (List.mem_of_getElem? (i := 46) rfl))) (mvT hZ (hw _ (List.mem_of_getElem? (i := 47) rfl))) (notFace_of_selects (args := #[]) (mvT hZ (hw _ (List.mem_of_getElem? (i := 49) rfl)))) (mvT hZ (hw _ (List.mem_of_getElem? (i := 49) rfl))) (mvT hZ (hw _ (List.mem_of_getElem? (i := 48) rfl))) (by decide) (backOf (W := 0) (rm7 l Z a0 CX [] b30 (0 : Int32) (by decide) T32.heap O F_substitute_b30) hZ (hw _ (List.mem_of_getElem? (i := 50) rfl)) (hw _ (List.mem_of_getElem? (i := 6) rfl)) (by decide) (by decide)) q36a q36c (g := (mkF m 156 #[.val (.int x0), .val (.long x1), .second, .val (.long x2), .second, .val (.long x3), .second, .val (.int x4), .val (.int ((x0 &&& (2147483647 : Int32)) % (3 : Int32))), .val (.int (0 : Int32)), .val (.int (0 : Int32)), .val (.ref w_MODE), .val (.long x3), .second, .val (.ref b30), .unset] [(.ref b30)])) rfl (by rw [hml]; rfl) (Steps.refl _) (argsL := []) (rest := []) (lenOf pd_5 rfl) rfl (by show 2 * 0 + _ ≤ _; exact Nat.le_of_eq rfl) (hb hby at_156) (fun _ _ => ⟨rfl, e35, (by decide : 1 + 0 ≤ _), (by decide : 6 + 0 ≤ _)⟩)
          dsimp only [Pt.U, Pt.locs, Pt.cells, Pt.slots] at X36 l36 y36 z36 st36 hQ36
          subst l36 y36 z36
          obtain ⟨rfl, N36q, e36⟩ := hQ36
          have N := Fr.app N N36q
          refine own_tr (T' := T36) (F' := (mkF m 159 #[.val (.int x0), .val (.long x1), .second, .val (.long x2), .second, .val (.long x3), .second, .val (.int x4), .val (.int ((x0 &&& (2147483647 : Int32)) % (3 : Int32))), .val (.int (0 : Int32)), .val (.int (0 : Int32)), .val (.ref w_MODE), .val (.long x3), .second, .val (.ref b30), .unset] [(.int (0 : Int32))])) st36 ?_
          refine own_st (T' := T36) (F' := (mkF m 161 #[.val (.int x0), .val (.long x1), .second, .val (.long x2), .second, .val (.long x3), .second, .val (.int x4), .val (.int ((x0 &&& (2147483647 : Int32)) % (3 : Int32))), .val (.int (0 : Int32)), .val (.int (0 : Int32)), .val (.ref w_MODE), .val (.long x3), .second, .val (.ref b30), .unset] [(.int (0 : Int32)), (.int (0 : Int32))])) (fun t k => XS.iload X36.here hx rfl (hb hby at_159) rfl k) ?_
          refine own_st (T' := T36) (F' := (mkF m 166 #[.val (.int x0), .val (.long x1), .second, .val (.long x2), .second, .val (.long x3), .second, .val (.int x4), .val (.int ((x0 &&& (2147483647 : Int32)) % (3 : Int32))), .val (.int (0 : Int32)), .val (.int (0 : Int32)), .val (.ref w_MODE), .val (.long x3), .second, .val (.ref b30), .unset] [])) (fun t k => XS.icmpYes X36.here hx rfl (pc0 := 161) (pc' := 166) rfl (hb hby at_161) rfl (teq rfl).1 (by decide) (by decide) k) ?_
          refine own_st (T' := T36) (F' := (mkF m 168 #[.val (.int x0), .val (.long x1), .second, .val (.long x2), .second, .val (.long x3), .second, .val (.int x4), .val (.int ((x0 &&& (2147483647 : Int32)) % (3 : Int32))), .val (.int (0 : Int32)), .val (.int (0 : Int32)), .val (.ref w_MODE), .val (.long x3), .second, .val (.ref b30), .unset] [(.ref b30)])) (fun t k => XS.aload X36.here hx rfl (hb hby at_166) rfl rfl k) ?_
          obtain ⟨cq37, kq37, q37a, q37b, q37c⟩ := isOf hZ e36 E_b30
          obtain ⟨v37, _, ⟨T37, L37, k37, n37⟩, -, X37, ⟨Lc37, hQ37, l37, y37, z37⟩, st37⟩ := X36.virtualBack hx (y := (⟨"com/example/framebeat/framebeat/DisplayEvent", "isSynthetic", "()Z"⟩ : MethodName)) (z := (⟨"com/example/framebeat/framebeat/DisplayEvent", "isSynthetic", "()Z"⟩ : MethodName)) hown (mvT hZ (hw _ (List.mem_of_getElem? (i := 51) rfl))) (mvT hZ (hw _ (List.mem_of_getElem? (i := 52) rfl))) (notFace_of_selects (args := #[]) (mvT hZ (hw _ (List.mem_of_getElem? (i := 54) rfl)))) (mvT hZ (hw _ (List.mem_of_getElem? (i := 54) rfl))) (mvT hZ (hw _ (List.mem_of_getElem? (i := 53) rfl))) (by decide) (backOf (W := 0) (rm8 l Z a0 CX [] b30 (0 : Int32) (by decide) T32.heap O F_synthetic_b30) hZ (hw _ (List.mem_of_getElem? (i := 55) rfl)) (hw _ (List.mem_of_getElem? (i := 6) rfl)) (by decide) (by decide)) q37a q37c (g := (mkF m 168 #[.val (.int x0), .val (.long x1), .second, .val (.long x2), .second, .val (.long x3), .second, .val (.int x4), .val (.int ((x0 &&& (2147483647 : Int32)) % (3 : Int32))), .val (.int (0 : Int32)), .val (.int (0 : Int32)), .val (.ref w_MODE), .val (.long x3), .second, .val (.ref b30), .unset] [(.ref b30)])) rfl (by rw [hml]; rfl) (Steps.refl _) (argsL := []) (rest := []) (lenOf pd_5 rfl) rfl (by show 2 * 0 + _ ≤ _; exact Nat.le_of_eq rfl) (hb hby at_168) (fun _ _ => ⟨rfl, e36, (by decide : 1 + 0 ≤ _), (by decide : 6 + 0 ≤ _)⟩)
          dsimp only [Pt.U, Pt.locs, Pt.cells, Pt.slots] at X37 l37 y37 z37 st37 hQ37
          subst l37 y37 z37
          obtain ⟨rfl, N37q, e37⟩ := hQ37
          have N := Fr.app N N37q
          refine own_tr (T' := T37) (F' := (mkF m 171 #[.val (.int x0), .val (.long x1), .second, .val (.long x2), .second, .val (.long x3), .second, .val (.int x4), .val (.int ((x0 &&& (2147483647 : Int32)) % (3 : Int32))), .val (.int (0 : Int32)), .val (.int (0 : Int32)), .val (.ref w_MODE), .val (.long x3), .second, .val (.ref b30), .unset] [(.int (0 : Int32))])) st37 ?_
          refine own_st (T' := T37) (F' := (mkF m 173 #[.val (.int x0), .val (.long x1), .second, .val (.long x2), .second, .val (.long x3), .second, .val (.int x4), .val (.int ((x0 &&& (2147483647 : Int32)) % (3 : Int32))), .val (.int (0 : Int32)), .val (.int (0 : Int32)), .val (.ref w_MODE), .val (.long x3), .second, .val (.ref b30), .unset] [(.int (0 : Int32)), (.int (0 : Int32))])) (fun t k => XS.iload X37.here hx rfl (hb hby at_171) rfl k) ?_
          refine own_st (T' := T37) (F' := (mkF m 178 #[.val (.int x0), .val (.long x1), .second, .val (.long x2), .second, .val (.long x3), .second, .val (.int x4), .val (.int ((x0 &&& (2147483647 : Int32)) % (3 : Int32))), .val (.int (0 : Int32)), .val (.int (0 : Int32)), .val (.ref w_MODE), .val (.long x3), .second, .val (.ref b30), .unset] [])) (fun t k => XS.icmpYes X37.here hx rfl (pc0 := 173) (pc' := 178) rfl (hb hby at_173) rfl (teq rfl).1 (by decide) (by decide) k) ?_
          refine own_st (T' := T37) (F' := (mkF m 180 #[.val (.int x0), .val (.long x1), .second, .val (.long x2), .second, .val (.long x3), .second, .val (.int x4), .val (.int ((x0 &&& (2147483647 : Int32)) % (3 : Int32))), .val (.int (0 : Int32)), .val (.int (0 : Int32)), .val (.ref w_MODE), .val (.long x3), .second, .val (.ref b30), .unset] [(.int ((x0 &&& (2147483647 : Int32)) % (3 : Int32)))])) (fun t k => XS.iload X37.here hx rfl (hb hby at_178) rfl k) ?_
          refine own_st (T' := T37) (F' := (mkF m 204 #[.val (.int x0), .val (.long x1), .second, .val (.long x2), .second, .val (.long x3), .second, .val (.int x4), .val (.int ((x0 &&& (2147483647 : Int32)) % (3 : Int32))), .val (.int (0 : Int32)), .val (.int (0 : Int32)), .val (.ref w_MODE), .val (.long x3), .second, .val (.ref b30), .unset] [])) (fun t k => XS.ifYes X37.here hx rfl (pc0 := 180) (pc' := 204) rfl (hb hby at_180) rfl ((if0 _ _).trans (feq hc38_5).2) (by decide) (by decide) k) ?_
          refine own_st (T' := T37) (F' := (mkF m 206 #[.val (.int x0), .val (.long x1), .second, .val (.long x2), .second, .val (.long x3), .second, .val (.int x4), .val (.int ((x0 &&& (2147483647 : Int32)) % (3 : Int32))), .val (.int (0 : Int32)), .val (.int (0 : Int32)), .val (.ref w_MODE), .val (.long x3), .second, .val (.ref b30), .unset] [(.int ((x0 &&& (2147483647 : Int32)) % (3 : Int32)))])) (fun t k => XS.iload X37.here hx rfl (hb hby at_204) rfl k) ?_
          refine own_st (T' := T37) (F' := (mkF m 207 #[.val (.int x0), .val (.long x1), .second, .val (.long x2), .second, .val (.long x3), .second, .val (.int x4), .val (.int ((x0 &&& (2147483647 : Int32)) % (3 : Int32))), .val (.int (0 : Int32)), .val (.int (0 : Int32)), .val (.ref w_MODE), .val (.long x3), .second, .val (.ref b30), .unset] [(.int (1 : Int32)), (.int ((x0 &&& (2147483647 : Int32)) % (3 : Int32)))])) (fun t k => XS.iconst X37.here hx rfl (hb hby at_206) k) ?_
          refine own_st (T' := T37) (F' := (mkF m 242 #[.val (.int x0), .val (.long x1), .second, .val (.long x2), .second, .val (.long x3), .second, .val (.int x4), .val (.int ((x0 &&& (2147483647 : Int32)) % (3 : Int32))), .val (.int (0 : Int32)), .val (.int (0 : Int32)), .val (.ref w_MODE), .val (.long x3), .second, .val (.ref b30), .unset] [])) (fun t k => XS.icmpYes X37.here hx rfl (pc0 := 207) (pc' := 242) rfl (hb hby at_207) rfl (feq hc56_16).2 (by decide) (by decide) k) ?_
          refine own_st (T' := T37) (F' := (mkF m 244 #[.val (.int x0), .val (.long x1), .second, .val (.long x2), .second, .val (.long x3), .second, .val (.int x4), .val (.int ((x0 &&& (2147483647 : Int32)) % (3 : Int32))), .val (.int (0 : Int32)), .val (.int (0 : Int32)), .val (.ref w_MODE), .val (.long x3), .second, .val (.ref b30), .unset] [(.ref b30)])) (fun t k => XS.aload X37.here hx rfl (hb hby at_242) rfl rfl k) ?_
          obtain ⟨cq38, kq38, q38a, q38b, q38c⟩ := isOf hZ e37 E_b30
          obtain ⟨v38, _, ⟨T38, L38, k38, n38⟩, -, X38, hSq38, hgr38, ⟨Lc38, hQ38, l38, y38, z38⟩, st38⟩ := X37.virtualBackS hx (y := (⟨"com/example/framebeat/framebeat/DisplayEvent", "periodNanos", "()J"⟩ : MethodName)) (z := (⟨"com/example/framebeat/framebeat/DisplayEvent", "periodNanos", "()J"⟩ : MethodName)) hown (mvT hZ (hw _ (List.mem_of_getElem? (i := 84) rfl))) (mvT hZ (hw _ (List.mem_of_getElem? (i := 85) rfl))) (notFace_of_selects (args := #[]) (mvT hZ (hw _ (List.mem_of_getElem? (i := 87) rfl)))) (mvT hZ (hw _ (List.mem_of_getElem? (i := 87) rfl))) (mvT hZ (hw _ (List.mem_of_getElem? (i := 86) rfl))) (by decide) (backOfS (W := 0) (rm12 l Z a0 CX [] b30 x3 T32.heap O E_b30 F_kind_b30 F_value_b30) hZ (hw _ (List.mem_of_getElem? (i := 88) rfl)) (hw _ (List.mem_of_getElem? (i := 6) rfl)) (by decide) (by decide)) q38a q38c (g := (mkF m 244 #[.val (.int x0), .val (.long x1), .second, .val (.long x2), .second, .val (.long x3), .second, .val (.int x4), .val (.int ((x0 &&& (2147483647 : Int32)) % (3 : Int32))), .val (.int (0 : Int32)), .val (.int (0 : Int32)), .val (.ref w_MODE), .val (.long x3), .second, .val (.ref b30), .unset] [(.ref b30)])) rfl (by rw [hml]; rfl) (Steps.refl _) (argsL := []) (rest := []) (lenOf pd_4 rfl) rfl (by show 2 * 0 + _ ≤ _; exact Nat.le_of_eq rfl) (hb hby at_244) (fun _ _ => ⟨rfl, e37, (by decide : 1 + 2 ≤ _), (by decide : 6 + 28 ≤ _)⟩)
          dsimp only [Pt.U, Pt.locs, Pt.cells, Pt.slots] at X38 l38 y38 z38 st38 hQ38 hSq38 hgr38
          subst l38 y38 z38
          have hS := foldS hS (by rw [e37]; exact hk) hSq38 hgr38
          have hk : T38.heap.size ≤ T38.heap.size := Nat.le_refl _
          have hZ : Z.Warmed39 (s.setVm T38.vm).vm := State.Warmed39.trans (t := (s.setVm s.vm)) hZ hSq38.1
          have hown : (s.setVm T38.vm).vm.findClass "com/example/framebeat/framebeat/DisplayEventSetPinLaw" = some m.cls := by show T38.vm.findClass _ = _; rw [hSq38.1.alike.findClass]; exact hown
          have X38 : Stand p l e room_1 (s.setVm T38.vm) m #[(.int x0), (.long x1), (.long x2), (.long x3), (.int x4)] below meth c T38 _ _ _ := X38
          obtain ⟨rfl, N38q, E38⟩ := hQ38
          have N := Fr.app N N38q
          have E_b30 := E_b30.ext E38
          have F_kind_b30 := F_kind_b30.ext E38
          have F_displayId_b30 := F_displayId_b30.ext E38
          have F_timestampNanos_b30 := F_timestampNanos_b30.ext E38
          have F_value_b30 := F_value_b30.ext E38
          have F_substitute_b30 := F_substitute_b30.ext E38
          have F_synthetic_b30 := F_synthetic_b30.ext E38
          have O := own_ext_trans O E38
          refine own_tr (T' := T38) (F' := (mkF m 247 #[.val (.int x0), .val (.long x1), .second, .val (.long x2), .second, .val (.long x3), .second, .val (.int x4), .val (.int ((x0 &&& (2147483647 : Int32)) % (3 : Int32))), .val (.int (0 : Int32)), .val (.int (0 : Int32)), .val (.ref w_MODE), .val (.long x3), .second, .val (.ref b30), .unset] [(.long x3)])) st38 ?_
          refine own_st (T' := T38) (F' := (mkF m 249 #[.val (.int x0), .val (.long x1), .second, .val (.long x2), .second, .val (.long x3), .second, .val (.int x4), .val (.int ((x0 &&& (2147483647 : Int32)) % (3 : Int32))), .val (.int (0 : Int32)), .val (.int (0 : Int32)), .val (.ref w_MODE), .val (.long x3), .second, .val (.ref b30), .unset] [(.long x3), (.long x3)])) (fun t k => XS.lload X38.here hx rfl (hb hby at_247) rfl k) ?_
          refine own_st (T' := T38) (F' := (mkF m 250 #[.val (.int x0), .val (.long x1), .second, .val (.long x2), .second, .val (.long x3), .second, .val (.int x4), .val (.int ((x0 &&& (2147483647 : Int32)) % (3 : Int32))), .val (.int (0 : Int32)), .val (.int (0 : Int32)), .val (.ref w_MODE), .val (.long x3), .second, .val (.ref b30), .unset] [(.int (lcmpW x3 x3))])) (fun t k => XS.lcmp X38.here hx rfl (hb hby at_249) rfl k) ?_
          refine own_st (T' := T38) (F' := (mkF m 253 #[.val (.int x0), .val (.long x1), .second, .val (.long x2), .second, .val (.long x3), .second, .val (.int x4), .val (.int ((x0 &&& (2147483647 : Int32)) % (3 : Int32))), .val (.int (0 : Int32)), .val (.int (0 : Int32)), .val (.ref w_MODE), .val (.long x3), .second, .val (.ref b30), .unset] [])) (fun t k => XS.ifNo X38.here hx rfl (hb hby at_250) rfl ((if0 _ _).trans (teq ((lw_eq _ _).mpr rfl)).2) k) ?_
          refine own_st (T' := T38) (F' := (mkF m 254 #[.val (.int x0), .val (.long x1), .second, .val (.long x2), .second, .val (.long x3), .second, .val (.int x4), .val (.int ((x0 &&& (2147483647 : Int32)) % (3 : Int32))), .val (.int (0 : Int32)), .val (.int (0 : Int32)), .val (.ref w_MODE), .val (.long x3), .second, .val (.ref b30), .unset] [(.int (1 : Int32))])) (fun t k => XS.iconst X38.here hx rfl (hb hby at_253) k) ?_
          refine own_st (T' := T38) (F' := (mkF m 258 #[.val (.int x0), .val (.long x1), .second, .val (.long x2), .second, .val (.long x3), .second, .val (.int x4), .val (.int ((x0 &&& (2147483647 : Int32)) % (3 : Int32))), .val (.int (0 : Int32)), .val (.int (0 : Int32)), .val (.ref w_MODE), .val (.long x3), .second, .val (.ref b30), .unset] [(.int (1 : Int32))])) (fun t k => XS.goto X38.here hx rfl (pc0 := 254) (pc' := 258) rfl (hb hby at_254) (by decide) (by decide) k) ?_
          refine own_st (T' := T38) (F' := (mkF m 260 #[.val (.int x0), .val (.long x1), .second, .val (.long x2), .second, .val (.long x3), .second, .val (.int x4), .val (.int ((x0 &&& (2147483647 : Int32)) % (3 : Int32))), .val (.int (0 : Int32)), .val (.int (0 : Int32)), .val (.ref w_MODE), .val (.long x3), .second, .val (.ref b30), .val (.int (1 : Int32))] [])) (fun t k => XS.istore X38.here hx rfl (hb hby at_258) rfl (l' := #[.val (.int x0), .val (.long x1), .second, .val (.long x2), .second, .val (.long x3), .second, .val (.int x4), .val (.int ((x0 &&& (2147483647 : Int32)) % (3 : Int32))), .val (.int (0 : Int32)), .val (.int (0 : Int32)), .val (.ref w_MODE), .val (.long x3), .second, .val (.ref b30), .val (.int (1 : Int32))]) rfl k) ?_
          refine own_st (T' := T38) (F' := (mkF m 262 #[.val (.int x0), .val (.long x1), .second, .val (.long x2), .second, .val (.long x3), .second, .val (.int x4), .val (.int ((x0 &&& (2147483647 : Int32)) % (3 : Int32))), .val (.int (0 : Int32)), .val (.int (0 : Int32)), .val (.ref w_MODE), .val (.long x3), .second, .val (.ref b30), .val (.int (1 : Int32))] [(.int (1 : Int32))])) (fun t k => XS.iload X38.here hx rfl (hb hby at_260) rfl k) ?_
          exact own_retNW X38 hx (t := .boolean) Bd.returns (by simp) (by decide) hS hk (hb hby at_262) hlk (⟨rfl, N⟩) (by decide) (by decide)
    refine own_st (T' := T2) (F' := (mkF m 24 #[.val (.int x0), .val (.long x1), .second, .val (.long x2), .second, .val (.long x3), .second, .val (.int x4), .val (.int ((x0 &&& (2147483647 : Int32)) % (3 : Int32))), .val (.int b9), .unset, .unset, .unset, .unset, .unset, .unset] [(.int x4)])) (fun t k => XS.iload X2.here hx rfl (hb hby at_22) rfl k) ?_
    refine own_st (T' := T2) (F' := (mkF m 25 #[.val (.int x0), .val (.long x1), .second, .val (.long x2), .second, .val (.long x3), .second, .val (.int x4), .val (.int ((x0 &&& (2147483647 : Int32)) % (3 : Int32))), .val (.int b9), .unset, .unset, .unset, .unset, .unset, .unset] [(.int (2 : Int32)), (.int x4)])) (fun t k => XS.iconst X2.here hx rfl (hb hby at_24) k) ?_
    refine own_st (T' := T2) (F' := (mkF m 26 #[.val (.int x0), .val (.long x1), .second, .val (.long x2), .second, .val (.long x3), .second, .val (.int x4), .val (.int ((x0 &&& (2147483647 : Int32)) % (3 : Int32))), .val (.int b9), .unset, .unset, .unset, .unset, .unset, .unset] [(.int (x4 &&& (2 : Int32)))])) (fun t k => XS.iand X2.here hx rfl (hb hby at_25) rfl k) ?_
    by_cases hc26_39 : (x4 &&& (2 : Int32)) = (0 : Int32)
    · refine own_st (T' := T2) (F' := (mkF m 33 #[.val (.int x0), .val (.long x1), .second, .val (.long x2), .second, .val (.long x3), .second, .val (.int x4), .val (.int ((x0 &&& (2147483647 : Int32)) % (3 : Int32))), .val (.int b9), .unset, .unset, .unset, .unset, .unset, .unset] [])) (fun t k => XS.ifYes X2.here hx rfl (pc0 := 26) (pc' := 33) rfl (hb hby at_26) rfl ((if0 _ _).trans (teq hc26_39).1) (by decide) (by decide) k) ?_
      refine own_st (T' := T2) (F' := (mkF m 34 #[.val (.int x0), .val (.long x1), .second, .val (.long x2), .second, .val (.long x3), .second, .val (.int x4), .val (.int ((x0 &&& (2147483647 : Int32)) % (3 : Int32))), .val (.int b9), .unset, .unset, .unset, .unset, .unset, .unset] [(.int (0 : Int32))])) (fun t k => XS.iconst X2.here hx rfl (hb hby at_33) k) ?_
      refine own_st (T' := T2) (F' := (mkF m 36 #[.val (.int x0), .val (.long x1), .second, .val (.long x2), .second, .val (.long x3), .second, .val (.int x4), .val (.int ((x0 &&& (2147483647 : Int32)) % (3 : Int32))), .val (.int b9), .val (.int (0 : Int32)), .unset, .unset, .unset, .unset, .unset] [])) (fun t k => XS.istore X2.here hx rfl (hb hby at_34) rfl (l' := #[.val (.int x0), .val (.long x1), .second, .val (.long x2), .second, .val (.long x3), .second, .val (.int x4), .val (.int ((x0 &&& (2147483647 : Int32)) % (3 : Int32))), .val (.int b9), .val (.int (0 : Int32)), .unset, .unset, .unset, .unset, .unset]) rfl k) ?_
      exact J36_3 _ _ X2 e2 N (0 : Int32) (by first | exact Or.inl rfl | exact Or.inr rfl)
    · refine own_st (T' := T2) (F' := (mkF m 29 #[.val (.int x0), .val (.long x1), .second, .val (.long x2), .second, .val (.long x3), .second, .val (.int x4), .val (.int ((x0 &&& (2147483647 : Int32)) % (3 : Int32))), .val (.int b9), .unset, .unset, .unset, .unset, .unset, .unset] [])) (fun t k => XS.ifNo X2.here hx rfl (hb hby at_26) rfl ((if0 _ _).trans (feq hc26_39).1) k) ?_
      refine own_st (T' := T2) (F' := (mkF m 30 #[.val (.int x0), .val (.long x1), .second, .val (.long x2), .second, .val (.long x3), .second, .val (.int x4), .val (.int ((x0 &&& (2147483647 : Int32)) % (3 : Int32))), .val (.int b9), .unset, .unset, .unset, .unset, .unset, .unset] [(.int (1 : Int32))])) (fun t k => XS.iconst X2.here hx rfl (hb hby at_29) k) ?_
      refine own_st (T' := T2) (F' := (mkF m 34 #[.val (.int x0), .val (.long x1), .second, .val (.long x2), .second, .val (.long x3), .second, .val (.int x4), .val (.int ((x0 &&& (2147483647 : Int32)) % (3 : Int32))), .val (.int b9), .unset, .unset, .unset, .unset, .unset, .unset] [(.int (1 : Int32))])) (fun t k => XS.goto X2.here hx rfl (pc0 := 30) (pc' := 34) rfl (hb hby at_30) (by decide) (by decide) k) ?_
      refine own_st (T' := T2) (F' := (mkF m 36 #[.val (.int x0), .val (.long x1), .second, .val (.long x2), .second, .val (.long x3), .second, .val (.int x4), .val (.int ((x0 &&& (2147483647 : Int32)) % (3 : Int32))), .val (.int b9), .val (.int (1 : Int32)), .unset, .unset, .unset, .unset, .unset] [])) (fun t k => XS.istore X2.here hx rfl (hb hby at_34) rfl (l' := #[.val (.int x0), .val (.long x1), .second, .val (.long x2), .second, .val (.long x3), .second, .val (.int x4), .val (.int ((x0 &&& (2147483647 : Int32)) % (3 : Int32))), .val (.int b9), .val (.int (1 : Int32)), .unset, .unset, .unset, .unset, .unset]) rfl k) ?_
      exact J36_3 _ _ X2 e2 N (1 : Int32) (by first | exact Or.inl rfl | exact Or.inr rfl)
  refine own_st (T' := s₁) (F' := (mkF m 10 #[.val (.int x0), .val (.long x1), .second, .val (.long x2), .second, .val (.long x3), .second, .val (.int x4), .val (.int ((x0 &&& (2147483647 : Int32)) % (3 : Int32))), .unset, .unset, .unset, .unset, .unset, .unset, .unset] [(.int x4)])) (fun t k => XS.iload X0.here hx rfl (hb hby at_8) rfl k) ?_
  refine own_st (T' := s₁) (F' := (mkF m 11 #[.val (.int x0), .val (.long x1), .second, .val (.long x2), .second, .val (.long x3), .second, .val (.int x4), .val (.int ((x0 &&& (2147483647 : Int32)) % (3 : Int32))), .unset, .unset, .unset, .unset, .unset, .unset, .unset] [(.int (1 : Int32)), (.int x4)])) (fun t k => XS.iconst X0.here hx rfl (hb hby at_10) k) ?_
  refine own_st (T' := s₁) (F' := (mkF m 12 #[.val (.int x0), .val (.long x1), .second, .val (.long x2), .second, .val (.long x3), .second, .val (.int x4), .val (.int ((x0 &&& (2147483647 : Int32)) % (3 : Int32))), .unset, .unset, .unset, .unset, .unset, .unset, .unset] [(.int (x4 &&& (1 : Int32)))])) (fun t k => XS.iand X0.here hx rfl (hb hby at_11) rfl k) ?_
  by_cases hc12_40 : (x4 &&& (1 : Int32)) = (0 : Int32)
  · refine own_st (T' := s₁) (F' := (mkF m 19 #[.val (.int x0), .val (.long x1), .second, .val (.long x2), .second, .val (.long x3), .second, .val (.int x4), .val (.int ((x0 &&& (2147483647 : Int32)) % (3 : Int32))), .unset, .unset, .unset, .unset, .unset, .unset, .unset] [])) (fun t k => XS.ifYes X0.here hx rfl (pc0 := 12) (pc' := 19) rfl (hb hby at_12) rfl ((if0 _ _).trans (teq hc12_40).1) (by decide) (by decide) k) ?_
    refine own_st (T' := s₁) (F' := (mkF m 20 #[.val (.int x0), .val (.long x1), .second, .val (.long x2), .second, .val (.long x3), .second, .val (.int x4), .val (.int ((x0 &&& (2147483647 : Int32)) % (3 : Int32))), .unset, .unset, .unset, .unset, .unset, .unset, .unset] [(.int (0 : Int32))])) (fun t k => XS.iconst X0.here hx rfl (hb hby at_19) k) ?_
    refine own_st (T' := s₁) (F' := (mkF m 22 #[.val (.int x0), .val (.long x1), .second, .val (.long x2), .second, .val (.long x3), .second, .val (.int x4), .val (.int ((x0 &&& (2147483647 : Int32)) % (3 : Int32))), .val (.int (0 : Int32)), .unset, .unset, .unset, .unset, .unset, .unset] [])) (fun t k => XS.istore X0.here hx rfl (hb hby at_20) rfl (l' := #[.val (.int x0), .val (.long x1), .second, .val (.long x2), .second, .val (.long x3), .second, .val (.int x4), .val (.int ((x0 &&& (2147483647 : Int32)) % (3 : Int32))), .val (.int (0 : Int32)), .unset, .unset, .unset, .unset, .unset, .unset]) rfl k) ?_
    exact J22_1 _ _ X0 e0 N (0 : Int32) (by first | exact Or.inl rfl | exact Or.inr rfl)
  · refine own_st (T' := s₁) (F' := (mkF m 15 #[.val (.int x0), .val (.long x1), .second, .val (.long x2), .second, .val (.long x3), .second, .val (.int x4), .val (.int ((x0 &&& (2147483647 : Int32)) % (3 : Int32))), .unset, .unset, .unset, .unset, .unset, .unset, .unset] [])) (fun t k => XS.ifNo X0.here hx rfl (hb hby at_12) rfl ((if0 _ _).trans (feq hc12_40).1) k) ?_
    refine own_st (T' := s₁) (F' := (mkF m 16 #[.val (.int x0), .val (.long x1), .second, .val (.long x2), .second, .val (.long x3), .second, .val (.int x4), .val (.int ((x0 &&& (2147483647 : Int32)) % (3 : Int32))), .unset, .unset, .unset, .unset, .unset, .unset, .unset] [(.int (1 : Int32))])) (fun t k => XS.iconst X0.here hx rfl (hb hby at_15) k) ?_
    refine own_st (T' := s₁) (F' := (mkF m 20 #[.val (.int x0), .val (.long x1), .second, .val (.long x2), .second, .val (.long x3), .second, .val (.int x4), .val (.int ((x0 &&& (2147483647 : Int32)) % (3 : Int32))), .unset, .unset, .unset, .unset, .unset, .unset, .unset] [(.int (1 : Int32))])) (fun t k => XS.goto X0.here hx rfl (pc0 := 16) (pc' := 20) rfl (hb hby at_16) (by decide) (by decide) k) ?_
    refine own_st (T' := s₁) (F' := (mkF m 22 #[.val (.int x0), .val (.long x1), .second, .val (.long x2), .second, .val (.long x3), .second, .val (.int x4), .val (.int ((x0 &&& (2147483647 : Int32)) % (3 : Int32))), .val (.int (1 : Int32)), .unset, .unset, .unset, .unset, .unset, .unset] [])) (fun t k => XS.istore X0.here hx rfl (hb hby at_20) rfl (l' := #[.val (.int x0), .val (.long x1), .second, .val (.long x2), .second, .val (.long x3), .second, .val (.int x4), .val (.int ((x0 &&& (2147483647 : Int32)) % (3 : Int32))), .val (.int (1 : Int32)), .unset, .unset, .unset, .unset, .unset, .unset]) rfl k) ?_
    exact J22_1 _ _ X0 e0 N (1 : Int32) (by first | exact Or.inl rfl | exact Or.inr rfl)
set_option maxRecDepth 65536 in
set_option maxHeartbeats 40000000 in
theorem comes_1 {Post : Tables → Env → Array Value → State → Outcome → State → Prop} (hpost : ∀ tb e args s v u, (limb_1_1.after args s (.returned v) u = true ∧ limb_1_2.after args s (.returned v) u = true ∧ True) → ReturnedEndW s (.returned v) u (Jvm.fieldLocs frame_1_writes args s ++ Jvm.arrayLocs frame_1_arrays args s ++ Jvm.staticLocs frame_1_statics s) 16 3200 → Post tb e args s (.returned v) u) :
    ArmFor flags0 classFile x code maxLocals ret World_1 tables_1 room_1 Calls_1 rest_1 Pre_1 Post := by
  intro l hfl _ _ p e ha hc hk s m args below hf hA hF happ hP
  obtain ⟨hcalls, hrest, hpre⟩ := hP
  obtain ⟨-, -, -, hnamed, -, -, -, hat⟩ := (Spec.applies_iff hf).mp happ
  obtain ⟨hg, hn⟩ := and_e (Cond.before_iff.mp (show (Jvm.Cond.and given_1 narrow_1).before args s = true from hpre))
  obtain ⟨g0, g1⟩ := and_e hg
  obtain ⟨g2, g3⟩ := and_e g1
  obtain ⟨g4, g5⟩ := and_e g3
  obtain ⟨g6, g7⟩ := and_e g5
  obtain ⟨g8, g9⟩ := and_e g7
  obtain ⟨w0, w1, w2, w3, w4, rfl⟩ : ∃ w0 w1 w2 w3 w4 : Value, args = #[w0, w1, w2, w3, w4] := by
    have hs : args.size = 5 := by simpa [Cond.value, given_1] using g0
    obtain ⟨L⟩ := args
    match L, hs with
    | [w0, w1, w2, w3, w4], _ => exact ⟨w0, w1, w2, w3, w4, rfl⟩
  have hw := fun d (hd : d ∈ tables_1) => atoms_spec (ws := Jvm.Cond.code x code maxLocals ret :: tables_1) hat d (List.mem_cons_of_mem _ hd)
  have hfit : Fit s := fun {y c} hc i hi => by
    obtain ⟨ha, rfl⟩ := Array.getElem?_eq_some_iff.mp hc
    have q := List.all_eq_true.mp ((Array.all_eq_true_iff_forall_mem.mp hF) _ (Array.getElem_mem ha)) i (List.mem_range.mpr hi)
    simpa [Array.getElem?_eq_getElem hi] using q
  obtain ⟨i0, ei0⟩ := is_v g2
  obtain rfl : w0 = (.int i0) := Option.some.inj ei0
  obtain ⟨i1, ei1⟩ := isL_v g4
  obtain rfl : w1 = (.long i1) := Option.some.inj ei1
  obtain ⟨i2, ei2⟩ := isL_v g6
  obtain rfl : w2 = (.long i2) := Option.some.inj ei2
  obtain ⟨i3, ei3⟩ := isL_v g8
  obtain rfl : w3 = (.long i3) := Option.some.inj ei3
  obtain ⟨i4, ei4⟩ := is_v g9
  obtain rfl : w4 = (.int i4) := Option.some.inj ei4
  obtain ⟨n0a, n0b⟩ := and_e hn
  obtain ⟨n1a, n1b⟩ := and_e n0b
  obtain ⟨w_VSYNC, v_VSYNC⟩ := exa_v n0a
  have E_VSYNC := Exa.start v_VSYNC n0a
  have S_VSYNC := Sta.start v_VSYNC (Or.inr ⟨(hw _ (List.mem_of_getElem? (i := 2) rfl)), (hw _ (List.mem_of_getElem? (i := 3) rfl))⟩)
  obtain ⟨w_HOTPLUG, v_HOTPLUG⟩ := exa_v n1a
  have E_HOTPLUG := Exa.start v_HOTPLUG n1a
  have S_HOTPLUG := Sta.start v_HOTPLUG (Or.inr ⟨(hw _ (List.mem_of_getElem? (i := 2) rfl)), (hw _ (List.mem_of_getElem? (i := 74) rfl))⟩)
  obtain ⟨w_MODE, v_MODE⟩ := exa_v n1b
  have E_MODE := Exa.start v_MODE n1b
  have S_MODE := Sta.start v_MODE (Or.inr ⟨(hw _ (List.mem_of_getElem? (i := 2) rfl)), (hw _ (List.mem_of_getElem? (i := 83) rfl))⟩)
  have CX : Ctx s _ w_VSYNC w_HOTPLUG w_MODE := ⟨hw, S_VSYNC, E_VSYNC, S_HOTPLUG, E_HOTPLUG, S_MODE, E_MODE, trivial⟩
  obtain ⟨n, o, h1, h2, h3, _, L, rfl, ⟨rfl, N⟩, hq⟩ := rm0 l s _ CX tables_1 i0 i1 i2 i3 i4 s.heap (own_ext_refl _)  p e ha hc hk s m _ below hf ((Spec.applies_iff_loose hf).mp happ).1 ⟨rfl, State.Warmed39.refl s, rfl⟩ trivial
  refine ⟨n, _, h1, h2, h3, hpost _ _ _ _ _ _ ⟨Cond.after_iff.mpr rfl, Cond.after_iff.mpr (eq_i res_at (Term.int_eval (1)) rfl), trivial⟩ ⟨hq.1, hq.2.1, hq.2.2.1, (hq.2.2.2.sift fun y hy => Or.inr (N y hy)).mono (by decide) (by decide)⟩⟩
theorem main_1_1 : Claimed_1_1 := comes_1 fun _ _ _ _ _ _ h hF => ⟨h.1, hF⟩
theorem main_1_2 : Claimed_1_2 := comes_1 fun _ _ _ _ _ _ h hF => ⟨h.2.1, hF⟩
end Jvm.Pilot.@@N@@
namespace Jvm.Pilot.@@N@@
open Jvm Jvm.ClassFile Sem Op Lib Jvm.Free Jvm.Stand Jvm.Pilot.@@N@@.Jvm.D
/-! MADE BY PROGRAM (witnessworld.py) out of the Statement's table words and the real class files: 16 classes; the members and pool entries that the words name. The judged class is class 1, her method 1. -/
namespace start1
open Jvm.ClassFile
def u (s : String) : CpInfo := .utf8 (stringToUtf16 s)
/-- a pool by its gaps: so many unusable entries, then the entry; so many at the end -/
def gap : Nat → List CpInfo → List CpInfo
  | 0, r => r
  | n + 1, r => .unusable :: gap n r
def poolList (es : List (Nat × CpInfo)) (last : Nat) : List CpInfo := es.foldr (fun e r => gap e.1 (e.2 :: r)) (gap last [])
def pool (es : List (Nat × CpInfo)) (last : Nat) : Array CpInfo := ⟨poolList es last⟩
def fileOf (pool : Array CpInfo) (this : Nat) (attrs : Array Attribute := #[]) (ms : Array MethodInfo := #[]) (fl : Nat := 33) (sup : Nat := 0) (ifs : Array Nat := #[]) (fds : Array FieldInfo := #[]) : ClassFile where
  minorVersion := 0
  majorVersion := 65
  constantPool := pool
  accessFlags := fl
  thisClass := this
  superClass := sup
  interfaces := ifs
  fields := fds
  methods := ms
  attributes := attrs
def plain (name : String) (sup : Option ClassId) : Class where
  name := name
  kind := .ordinary
  loader := none
  accessFlags := 33
  super := sup
  interfaces := #[]
  cf := none
  fields := #[]
  methods := #[]
  instanceTypes := #[]
  staticTypes := #[]
  resolved := #[]
  callSites := []
  init := .initialized
  statics := none
  mirror := none

def pool0 : Array CpInfo := pool [(5, u "<init>"), (0, u "()V"), (1, .class_ 10), (1, u "java/lang/Object")] 113

def k0c0 : Code := { maxStack := 0, maxLocals := 1, code := object_method_1_code, exceptionTable := #[], attributes := #[] }
def k0m0 : Method := { name := "<init>", desc := "()V", sig := { parameters := [], returnType := none }, accessFlags := 1, code := some k0c0 }
/-- java/lang/Object -/
def k0 : Class := { plain "java/lang/Object" none with
  accessFlags := 33
  interfaces := #[]
  cf := some (fileOf pool0 8 #[] #[{ accessFlags := 1, nameIndex := 5, descriptorIndex := 6, attributes := #[] }] 33 0 #[] #[])
  fields := #[]
  methods := #[k0m0]
  instanceTypes := #[]
  staticTypes := #[]
  resolved := Array.replicate 124 none
  statics := none }

def pool1 : Array CpInfo := pool [(2, .class_ 4), (0, .nameAndType 5 6), (0, u "java/lang/Object"), (0, u "<init>"), (0, u "()V"), (0, .integer 2147483647), (0, .fieldref 9 10), (0, .class_ 11), (0, .nameAndType 12 13), (0, u "com/example/framebeat/framebeat/DisplayEvent$Kind"), (0, u "VSYNC"), (0, u "Lcom/example/framebeat/framebeat/DisplayEvent$Kind;"), (0, .fieldref 9 15), (0, .nameAndType 16 13), (0, u "HOTPLUG"), (0, .fieldref 9 18), (0, .nameAndType 19 13), (0, u "MODE"), (0, .class_ 21), (0, u "com/example/framebeat/framebeat/DisplayEvent"), (0, .methodref 20 3), (0, .methodref 20 24), (0, .nameAndType 25 26), (0, u "set"), (0, u "(Lcom/example/framebeat/framebeat/DisplayEvent$Kind;JJJZZ)V"), (0, .methodref 20 28), (0, .nameAndType 29 30), (0, u "kind"), (0, u "()Lcom/example/framebeat/framebeat/DisplayEvent$Kind;"), (0, .methodref 20 32), (0, .nameAndType 33 34), (0, u "displayId"), (0, u "()J"), (0, .methodref 20 36), (0, .nameAndType 37 34), (0, u "timestampNanos"), (0, .methodref 20 39), (0, .nameAndType 40 41), (0, u "isSubstitute"), (0, u "()Z"), (0, .methodref 20 43), (0, .nameAndType 44 41), (0, u "isSynthetic"), (0, .methodref 20 46), (0, .nameAndType 47 34), (0, u "count"), (0, .methodref 20 49), (0, .nameAndType 50 41), (0, u "isConnected"), (0, .methodref 20 52), (0, .nameAndType 53 34), (0, u "periodNanos"), (0, .class_ 55), (0, u "com/example/framebeat/framebeat/DisplayEventSetPinLaw"), (2, u "law"), (0, u "(IJJJI)Z")] 5

def k1m0 : Method := { name := "<init>", desc := "()V", sig := { parameters := [], returnType := none }, accessFlags := 1, code := none }
def k1c1 : Code := { maxStack := 10, maxLocals := 16, code := code, exceptionTable := #[], attributes := #[] }
def k1m1 : Method := { name := "law", desc := "(IJJJI)Z", sig := { parameters := [.int, .long, .long, .long, .int], returnType := some .boolean }, accessFlags := 9, code := some k1c1 }
/-- com/example/framebeat/framebeat/DisplayEventSetPinLaw -/
def k1 : Class := { plain "com/example/framebeat/framebeat/DisplayEventSetPinLaw" (some 0) with
  accessFlags := 49
  interfaces := #[]
  cf := some (fileOf pool1 54 #[] #[{ accessFlags := 1, nameIndex := 5, descriptorIndex := 6, attributes := #[] }, { accessFlags := 9, nameIndex := 58, descriptorIndex := 59, attributes := #[] }] 49 2 #[] #[])
  fields := #[]
  methods := #[k1m0, k1m1]
  instanceTypes := #[]
  staticTypes := #[]
  resolved := Array.replicate 65 none
  statics := none }

def pool2 : Array CpInfo := pool [(1, .class_ 2), (0, u "java/lang/constant/Constable"), (0, .class_ 4), (0, u "java/lang/Object")] 6

/-- java/lang/constant/Constable -/
def k2 : Class := { plain "java/lang/constant/Constable" (some 0) with
  accessFlags := 1537
  interfaces := #[]
  cf := some (fileOf pool2 1 #[] #[] 1537 3 #[] #[])
  fields := #[]
  methods := #[]
  instanceTypes := #[]
  staticTypes := #[]
  resolved := Array.replicate 11 none
  statics := none }

def pool3 : Array CpInfo := pool [(1, .class_ 2), (0, u "java/lang/Comparable"), (0, .class_ 4), (0, u "java/lang/Object")] 7

/-- java/lang/Comparable -/
def k3 : Class := { plain "java/lang/Comparable" (some 0) with
  accessFlags := 1537
  interfaces := #[]
  cf := some (fileOf pool3 1 #[] #[] 1537 3 #[] #[])
  fields := #[]
  methods := #[]
  instanceTypes := #[]
  staticTypes := #[]
  resolved := Array.replicate 12 none
  statics := none }

def pool4 : Array CpInfo := pool [(1, .class_ 2), (0, u "java/io/Serializable"), (0, .class_ 4), (0, u "java/lang/Object")] 2

/-- java/io/Serializable -/
def k4 : Class := { plain "java/io/Serializable" (some 0) with
  accessFlags := 1537
  interfaces := #[]
  cf := some (fileOf pool4 1 #[] #[] 1537 3 #[] #[])
  fields := #[]
  methods := #[]
  instanceTypes := #[]
  staticTypes := #[]
  resolved := Array.replicate 7 none
  statics := none }

def pool5 : Array CpInfo := pool [(2, .class_ 4), (1, u "java/lang/Enum"), (0, u "name"), (0, u "Ljava/lang/String;"), (2, u "ordinal"), (0, u "I"), (1, .class_ 14), (1, u "java/lang/Object"), (4, u "hash"), (86, .class_ 108), (1, u "java/lang/Enum$EnumDesc"), (2, .class_ 112), (0, u "java/lang/constant/Constable"), (0, .class_ 114), (0, u "java/lang/Comparable"), (0, .class_ 116), (0, u "java/io/Serializable")] 87

/-- java/lang/Enum -/
def k5 : Class := { plain "java/lang/Enum" (some 0) with
  accessFlags := 1057
  interfaces := #[2, 3, 4]
  cf := some (fileOf pool5 2 #[.nestMembers #[106]] #[] 1057 12 #[111, 113, 115] #[{ accessFlags := 18, nameIndex := 5, descriptorIndex := 6, attributes := #[] }, { accessFlags := 18, nameIndex := 9, descriptorIndex := 10, attributes := #[] }, { accessFlags := 2, nameIndex := 19, descriptorIndex := 10, attributes := #[] }])
  fields := #[{ name := "name", type := (.object "java/lang/String"), accessFlags := 18, slot := 0, constantValue := 0 }, { name := "ordinal", type := .int, accessFlags := 18, slot := 1, constantValue := 0 }, { name := "hash", type := .int, accessFlags := 2, slot := 2, constantValue := 0 }]
  methods := #[]
  instanceTypes := #[(.object "java/lang/String"), .int, .int]
  staticTypes := #[]
  resolved := Array.replicate 204 none
  statics := none }

def pool6 : Array CpInfo := pool [(1, .class_ 2), (0, u "com/example/framebeat/framebeat/DisplayEvent$Kind"), (2, u "VSYNC"), (0, u "Lcom/example/framebeat/framebeat/DisplayEvent$Kind;"), (2, u "HOTPLUG"), (2, u "MODE"), (2, u "$VALUES"), (0, u "[Lcom/example/framebeat/framebeat/DisplayEvent$Kind;"), (6, .class_ 25), (1, u "java/lang/Enum"), (26, .class_ 53), (0, u "com/example/framebeat/framebeat/DisplayEvent")] 2

/-- com/example/framebeat/framebeat/DisplayEvent$Kind -/
def k6 : Class := { plain "com/example/framebeat/framebeat/DisplayEvent$Kind" (some 5) with
  accessFlags := 16433
  interfaces := #[]
  cf := some (fileOf pool6 1 #[.nestHost 52] #[] 16433 23 #[] #[{ accessFlags := 16409, nameIndex := 5, descriptorIndex := 6, attributes := #[] }, { accessFlags := 16409, nameIndex := 9, descriptorIndex := 6, attributes := #[] }, { accessFlags := 16409, nameIndex := 12, descriptorIndex := 6, attributes := #[] }, { accessFlags := 4122, nameIndex := 15, descriptorIndex := 16, attributes := #[] }])
  fields := #[{ name := "VSYNC", type := (.object "com/example/framebeat/framebeat/DisplayEvent$Kind"), accessFlags := 16409, slot := 0, constantValue := 0 }, { name := "HOTPLUG", type := (.object "com/example/framebeat/framebeat/DisplayEvent$Kind"), accessFlags := 16409, slot := 1, constantValue := 0 }, { name := "MODE", type := (.object "com/example/framebeat/framebeat/DisplayEvent$Kind"), accessFlags := 16409, slot := 2, constantValue := 0 }, { name := "$VALUES", type := (.array (.object "com/example/framebeat/framebeat/DisplayEvent$Kind")), accessFlags := 4122, slot := 3, constantValue := 0 }]
  methods := #[]
  instanceTypes := #[(.object "java/lang/String"), .int, .int]
  staticTypes := #[(.object "com/example/framebeat/framebeat/DisplayEvent$Kind"), (.object "com/example/framebeat/framebeat/DisplayEvent$Kind"), (.object "com/example/framebeat/framebeat/DisplayEvent$Kind"), (.array (.object "com/example/framebeat/framebeat/DisplayEvent$Kind"))]
  resolved := Array.replicate 56 none
  statics := some 0 }

def pool7 : Array CpInfo := pool [(1, .methodref 2 3), (0, .class_ 4), (0, .nameAndType 5 6), (0, u "java/lang/Object"), (0, u "<init>"), (0, u "()V"), (0, .fieldref 8 9), (0, .class_ 10), (0, .nameAndType 11 12), (0, u "com/example/framebeat/framebeat/DisplayEvent$Kind"), (0, u "VSYNC"), (0, u "Lcom/example/framebeat/framebeat/DisplayEvent$Kind;"), (0, .fieldref 14 15), (0, .class_ 16), (0, .nameAndType 17 12), (0, u "com/example/framebeat/framebeat/DisplayEvent"), (0, u "kind"), (0, .fieldref 14 19), (0, .nameAndType 20 21), (0, u "displayId"), (0, u "J"), (0, .fieldref 14 23), (0, .nameAndType 24 21), (0, u "timestampNanos"), (0, .string 26), (0, u "count"), (0, .methodref 14 28), (0, .nameAndType 29 30), (0, u "valueOf"), (0, u "(Lcom/example/framebeat/framebeat/DisplayEvent$Kind;Ljava/lang/String;)J"), (0, .fieldref 8 32), (0, .nameAndType 33 12), (0, u "HOTPLUG"), (0, .string 35), (0, u "connected state"), (0, .fieldref 8 37), (0, .nameAndType 38 12), (0, u "MODE"), (0, .string 40), (0, u "period"), (0, .fieldref 14 42), (0, .nameAndType 43 44), (0, u "substitute"), (0, u "Z"), (0, .fieldref 14 46), (0, .nameAndType 47 44), (0, u "synthetic"), (13, .fieldref 14 62), (0, .nameAndType 63 21), (0, u "value"), (21, u "set"), (0, u "(Lcom/example/framebeat/framebeat/DisplayEvent$Kind;JJJZZ)V"), (8, u "()Lcom/example/framebeat/framebeat/DisplayEvent$Kind;"), (0, u "()J"), (0, u "isConnected"), (0, u "()Z"), (1, u "periodNanos"), (0, u "isSubstitute"), (0, u "isSynthetic")] 31

def k7c0 : Code := { maxStack := 2, maxLocals := 1, code := prog_4_method_1_code, exceptionTable := #[], attributes := #[] }
def k7m0 : Method := { name := "<init>", desc := "()V", sig := { parameters := [], returnType := none }, accessFlags := 1, code := some k7c0 }
def k7c1 : Code := { maxStack := 1, maxLocals := 1, code := prog_4_method_2_code, exceptionTable := #[], attributes := #[] }
def k7m1 : Method := { name := "kind", desc := "()Lcom/example/framebeat/framebeat/DisplayEvent$Kind;", sig := { parameters := [], returnType := some (.object "com/example/framebeat/framebeat/DisplayEvent$Kind") }, accessFlags := 1, code := some k7c1 }
def k7c2 : Code := { maxStack := 2, maxLocals := 1, code := prog_4_method_3_code, exceptionTable := #[], attributes := #[] }
def k7m2 : Method := { name := "displayId", desc := "()J", sig := { parameters := [], returnType := some .long }, accessFlags := 1, code := some k7c2 }
def k7c3 : Code := { maxStack := 2, maxLocals := 1, code := prog_4_method_4_code, exceptionTable := #[], attributes := #[] }
def k7m3 : Method := { name := "timestampNanos", desc := "()J", sig := { parameters := [], returnType := some .long }, accessFlags := 1, code := some k7c3 }
def k7c4 : Code := { maxStack := 3, maxLocals := 1, code := prog_4_method_5_code, exceptionTable := #[], attributes := #[] }
def k7m4 : Method := { name := "count", desc := "()J", sig := { parameters := [], returnType := some .long }, accessFlags := 1, code := some k7c4 }
def k7c5 : Code := { maxStack := 4, maxLocals := 1, code := prog_4_method_6_code, exceptionTable := #[], attributes := #[] }
def k7m5 : Method := { name := "isConnected", desc := "()Z", sig := { parameters := [], returnType := some .boolean }, accessFlags := 1, code := some k7c5 }
def k7c6 : Code := { maxStack := 3, maxLocals := 1, code := prog_4_method_7_code, exceptionTable := #[], attributes := #[] }
def k7m6 : Method := { name := "periodNanos", desc := "()J", sig := { parameters := [], returnType := some .long }, accessFlags := 1, code := some k7c6 }
def k7c7 : Code := { maxStack := 1, maxLocals := 1, code := prog_4_method_8_code, exceptionTable := #[], attributes := #[] }
def k7m7 : Method := { name := "isSubstitute", desc := "()Z", sig := { parameters := [], returnType := some .boolean }, accessFlags := 1, code := some k7c7 }
def k7c8 : Code := { maxStack := 1, maxLocals := 1, code := prog_4_method_9_code, exceptionTable := #[], attributes := #[] }
def k7m8 : Method := { name := "isSynthetic", desc := "()Z", sig := { parameters := [], returnType := some .boolean }, accessFlags := 1, code := some k7c8 }
def k7c9 : Code := { maxStack := 3, maxLocals := 10, code := prog_4_method_11_code, exceptionTable := #[], attributes := #[] }
def k7m9 : Method := { name := "set", desc := "(Lcom/example/framebeat/framebeat/DisplayEvent$Kind;JJJZZ)V", sig := { parameters := [(.object "com/example/framebeat/framebeat/DisplayEvent$Kind"), .long, .long, .long, .boolean, .boolean], returnType := none }, accessFlags := 0, code := some k7c9 }
def k7c10 : Code := { maxStack := 4, maxLocals := 3, code := prog_4_method_13_code, exceptionTable := #[], attributes := #[] }
def k7m10 : Method := { name := "valueOf", desc := "(Lcom/example/framebeat/framebeat/DisplayEvent$Kind;Ljava/lang/String;)J", sig := { parameters := [(.object "com/example/framebeat/framebeat/DisplayEvent$Kind"), (.object "java/lang/String")], returnType := some .long }, accessFlags := 2, code := some k7c10 }
/-- com/example/framebeat/framebeat/DisplayEvent -/
def k7 : Class := { plain "com/example/framebeat/framebeat/DisplayEvent" (some 0) with
  accessFlags := 49
  interfaces := #[]
  cf := some (fileOf pool7 14 #[.nestMembers #[8]] #[{ accessFlags := 1, nameIndex := 5, descriptorIndex := 6, attributes := #[] }, { accessFlags := 1, nameIndex := 17, descriptorIndex := 95, attributes := #[] }, { accessFlags := 1, nameIndex := 20, descriptorIndex := 96, attributes := #[] }, { accessFlags := 1, nameIndex := 24, descriptorIndex := 96, attributes := #[] }, { accessFlags := 1, nameIndex := 26, descriptorIndex := 96, attributes := #[] }, { accessFlags := 1, nameIndex := 97, descriptorIndex := 98, attributes := #[] }, { accessFlags := 1, nameIndex := 100, descriptorIndex := 96, attributes := #[] }, { accessFlags := 1, nameIndex := 101, descriptorIndex := 98, attributes := #[] }, { accessFlags := 1, nameIndex := 102, descriptorIndex := 98, attributes := #[] }, { accessFlags := 0, nameIndex := 85, descriptorIndex := 86, attributes := #[] }, { accessFlags := 2, nameIndex := 29, descriptorIndex := 30, attributes := #[] }] 49 2 #[] #[{ accessFlags := 2, nameIndex := 17, descriptorIndex := 12, attributes := #[] }, { accessFlags := 2, nameIndex := 20, descriptorIndex := 21, attributes := #[] }, { accessFlags := 2, nameIndex := 24, descriptorIndex := 21, attributes := #[] }, { accessFlags := 2, nameIndex := 63, descriptorIndex := 21, attributes := #[] }, { accessFlags := 2, nameIndex := 43, descriptorIndex := 44, attributes := #[] }, { accessFlags := 2, nameIndex := 47, descriptorIndex := 44, attributes := #[] }])
  fields := #[{ name := "kind", type := (.object "com/example/framebeat/framebeat/DisplayEvent$Kind"), accessFlags := 2, slot := 0, constantValue := 0 }, { name := "displayId", type := .long, accessFlags := 2, slot := 1, constantValue := 0 }, { name := "timestampNanos", type := .long, accessFlags := 2, slot := 2, constantValue := 0 }, { name := "value", type := .long, accessFlags := 2, slot := 3, constantValue := 0 }, { name := "substitute", type := .boolean, accessFlags := 2, slot := 4, constantValue := 0 }, { name := "synthetic", type := .boolean, accessFlags := 2, slot := 5, constantValue := 0 }]
  methods := #[k7m0, k7m1, k7m2, k7m3, k7m4, k7m5, k7m6, k7m7, k7m8, k7m9, k7m10]
  instanceTypes := #[(.object "com/example/framebeat/framebeat/DisplayEvent$Kind"), .long, .long, .long, .boolean, .boolean]
  staticTypes := #[]
  resolved := Array.replicate 134 none
  statics := none }

def pool8 : Array CpInfo := pool [(2, .class_ 4), (1, u "java/lang/CharSequence"), (42, .class_ 48), (0, u "java/lang/CharSequence$1CodePointIterator"), (10, .class_ 60), (0, u "java/lang/CharSequence$1CharIterator"), (5, .class_ 67), (0, u "java/lang/Object")] 63

/-- java/lang/CharSequence -/
def k8 : Class := { plain "java/lang/CharSequence" (some 0) with
  accessFlags := 1537
  interfaces := #[]
  cf := some (fileOf pool8 2 #[.nestMembers #[47, 59]] #[] 1537 66 #[] #[])
  fields := #[]
  methods := #[]
  instanceTypes := #[]
  staticTypes := #[]
  resolved := Array.replicate 131 none
  statics := none }

def pool9 : Array CpInfo := pool [(1, .class_ 2), (0, u "java/lang/constant/ConstantDesc"), (0, .class_ 4), (0, u "java/lang/Object")] 32

/-- java/lang/constant/ConstantDesc -/
def k9 : Class := { plain "java/lang/constant/ConstantDesc" (some 0) with
  accessFlags := 1537
  interfaces := #[]
  cf := some (fileOf pool9 1 #[] #[] 1537 3 #[] #[])
  fields := #[]
  methods := #[]
  instanceTypes := #[]
  staticTypes := #[]
  resolved := Array.replicate 37 none
  statics := none }

def pool10 : Array CpInfo := pool [(2, .class_ 4), (1, u "java/lang/Object"), (0, u "<init>"), (0, u "()V"), (3, .class_ 12), (1, u "java/lang/String"), (0, u "value"), (0, u "[B"), (2, u "coder"), (0, u "B"), (2, u "hash"), (0, u "I"), (2, u "hashIsZero"), (0, u "Z"), (13, u "COMPACT_STRINGS"), (534, .class_ 576), (0, u "java/lang/CharSequence"), (22, u "CASE_INSENSITIVE_ORDER"), (0, u "Ljava/util/Comparator;"), (500, u "serialPersistentFields"), (0, u "[Ljava/io/ObjectStreamField;"), (0, .class_ 1104), (0, u "java/lang/String$CaseInsensitiveComparator"), (1, .class_ 1107), (0, u "java/io/Serializable"), (0, .class_ 1109), (0, u "java/lang/Comparable"), (0, .class_ 1111), (0, u "java/lang/constant/Constable"), (0, .class_ 1113), (0, u "java/lang/constant/ConstantDesc"), (2, u "serialVersionUID"), (0, u "J"), (3, u "REPL"), (0, u "C"), (2, u "LATIN1"), (1, u "UTF16")] 323

def k10m0 : Method := { name := "<init>", desc := "()V", sig := { parameters := [], returnType := none }, accessFlags := 1, code := none }
/-- java/lang/String -/
def k10 : Class := { plain "java/lang/String" (some 0) with
  accessFlags := 49
  interfaces := #[4, 3, 8, 2, 9]
  cf := some (fileOf pool10 10 #[.nestMembers #[1103]] #[{ accessFlags := 1, nameIndex := 5, descriptorIndex := 6, attributes := #[] }] 49 2 #[1106, 1108, 575, 1110, 1112] #[{ accessFlags := 18, nameIndex := 13, descriptorIndex := 14, attributes := #[] }, { accessFlags := 18, nameIndex := 17, descriptorIndex := 18, attributes := #[] }, { accessFlags := 2, nameIndex := 21, descriptorIndex := 22, attributes := #[] }, { accessFlags := 2, nameIndex := 25, descriptorIndex := 26, attributes := #[] }, { accessFlags := 26, nameIndex := 1116, descriptorIndex := 1117, attributes := #[] }, { accessFlags := 24, nameIndex := 40, descriptorIndex := 26, attributes := #[] }, { accessFlags := 26, nameIndex := 1101, descriptorIndex := 1102, attributes := #[] }, { accessFlags := 26, nameIndex := 1121, descriptorIndex := 1122, attributes := #[] }, { accessFlags := 25, nameIndex := 599, descriptorIndex := 600, attributes := #[] }, { accessFlags := 24, nameIndex := 1125, descriptorIndex := 18, attributes := #[] }, { accessFlags := 24, nameIndex := 1127, descriptorIndex := 18, attributes := #[] }])
  fields := #[{ name := "value", type := (.array .byte), accessFlags := 18, slot := 0, constantValue := 0 }, { name := "coder", type := .byte, accessFlags := 18, slot := 1, constantValue := 0 }, { name := "hash", type := .int, accessFlags := 2, slot := 2, constantValue := 0 }, { name := "hashIsZero", type := .boolean, accessFlags := 2, slot := 3, constantValue := 0 }, { name := "serialVersionUID", type := .long, accessFlags := 26, slot := 0, constantValue := 0 }, { name := "COMPACT_STRINGS", type := .boolean, accessFlags := 24, slot := 1, constantValue := 0 }, { name := "serialPersistentFields", type := (.array (.object "java/io/ObjectStreamField")), accessFlags := 26, slot := 2, constantValue := 0 }, { name := "REPL", type := .char, accessFlags := 26, slot := 3, constantValue := 0 }, { name := "CASE_INSENSITIVE_ORDER", type := (.object "java/util/Comparator"), accessFlags := 25, slot := 4, constantValue := 0 }, { name := "LATIN1", type := .byte, accessFlags := 24, slot := 5, constantValue := 0 }, { name := "UTF16", type := .byte, accessFlags := 24, slot := 6, constantValue := 0 }]
  methods := #[k10m0]
  instanceTypes := #[(.array .byte), .byte, .int, .boolean]
  staticTypes := #[.long, .boolean, (.array (.object "java/io/ObjectStreamField")), .char, (.object "java/util/Comparator"), .byte, .byte]
  resolved := Array.replicate 1451 none
  statics := none }

def pool11 : Array CpInfo := pool [(1, u "java/lang/Cloneable"), (0, .class_ 1), (0, u "java/lang/Object"), (0, .class_ 3)] 3

/-- java/lang/Cloneable -/
def k11 : Class := { plain "java/lang/Cloneable" (some 0) with
  accessFlags := 1537
  interfaces := #[]
  cf := some (fileOf pool11 2 #[] #[] 1537 4 #[] #[])
  fields := #[]
  methods := #[]
  instanceTypes := #[]
  staticTypes := #[]
  resolved := Array.replicate 8 none
  statics := none }

/-- the primitive byte -/
def k12 : Class := { plain "byte" none with kind := .primitive 'B', accessFlags := 0x411 }
/-- [B -/
def k13 : Class := { plain "[B" (some 0) with kind := .array 12 .byte, interfaces := #[11, 4], accessFlags := 1041 }

/-- the primitive int -/
def k14 : Class := { plain "int" none with kind := .primitive 'I', accessFlags := 0x411 }
/-- [I -/
def k15 : Class := { plain "[I" (some 0) with kind := .array 14 .int, interfaces := #[11, 4], accessFlags := 1041 }

def heap : Heap := #[{ cls := 6, slots := #[.ref 1, .ref 2, .ref 3, .null], vm := .statics 6 },
  { cls := 6, slots := #[.null, .int 0, .int 0], vm := .none },
  { cls := 6, slots := #[.null, .int 0, .int 0], vm := .none },
  { cls := 6, slots := #[.null, .int 0, .int 0], vm := .none }]
def classes : Array Class := #[k0, k1, k2, k3, k4, k5, k6, k7, k8, k9, k10, k11, k12, k13, k14, k15]
def interned : List (Array UInt16 × Addr) := []
def slotsUsed : Nat := 13
def theMethod : MethodId := ⟨1, 1⟩
def args0 : Array Value := #[.int 5, .long 5, .long 5, .long 5, .int 5]
def aboutOver (below : List Frame) : State where
  vm := { classes := classes, interned := interned.toArray }
  heap := heap
  slotsUsed := slotsUsed
  threads := #[{ frames := .invoking theMethod args0 :: below }]
def below0 : List Frame := [.native { method := ⟨0, 0⟩, args := #[] }]
def about1 : State := aboutOver below0
def p0 : Program := .bare "" "" ""
def e0 : Env := launch0.env 0 0 0
theorem w_frames : about1.frames = Frame.invoking theMethod args0 :: below0 := rfl
set_option maxRecDepth 65536 in
theorem w_args : argsFit about1.vm theMethod args0 = true := by decide +kernel
set_option maxRecDepth 65536 in
theorem w_heap : heapFits about1 = true := by decide +kernel
set_option maxRecDepth 65536 in
theorem w_runnable : about1.curStatus? = some .runnable := by decide +kernel
set_option maxRecDepth 65536 in
theorem w_alone : about1.alone = true := by decide +kernel
set_option maxRecDepth 65536 in
theorem w_named : about1.methodNamed? x = some theMethod := by decide +kernel
set_option maxRecDepth 65536 in
theorem w_hears : about1.hears theMethod below0 = true := by decide +kernel
set_option maxRecDepth 65536 in
theorem w_ripe : about1.ripe theMethod args0 below0 = true := by decide +kernel
theorem w_running : about1.status = .running := rfl
set_option maxRecDepth 65536 in
theorem w_room : about1.hasRoom e0.platform room_1 = true :=
  launch0.hasRoom_least _ room_1 (by decide +kernel) (by decide +kernel) (by decide +kernel) (by decide +kernel) (by decide +kernel) (by decide +kernel)
theorem allAtoms_all (ts : List Jvm.Cond) (a : Array Jvm.Value) (st : Jvm.State) : (allAtoms ts).before a st = ts.all (fun c => c.before a st) := by
  induction ts with
  | nil => rfl
  | cons c t ih =>
    show (Jvm.Cond.and c (allAtoms t)).before a st = _
    rw [Jvm.Cond.before_and, ih, List.all_cons]
def words1 : List Jvm.Cond := Jvm.Cond.code x code maxLocals ret :: tables_1
/-- a 'code' word, met by the world's own term for the bytes: nothing is compared byte by byte -/
theorem code_word {y : MethodName} {bytes : ByteArray} {mx : Nat} {rt : Option FieldType} {a : Array Value} {s : State} {m : MethodId} {meth : Method} {c : Code} (h1 : s.methodNamed? y = some m) (h2 : s.vm.method? m = some meth) (h3 : meth.code = some c) (h4 : c.code = bytes)
    (h5 : (c.maxLocals == mx && c.exceptionTable.isEmpty && decide (c.maxStack ≤ mostOperands) && decide (meth.sig.returnType = rt) && !meth.locks && decide (parseMethodDescriptor y.desc = some meth.sig)) = true) : (Jvm.Cond.code y bytes mx rt).before a s = true := by
  simp only [Bool.and_eq_true, beq_iff_eq, Bool.not_eq_true', decide_eq_true_eq] at h5
  obtain ⟨⟨⟨⟨⟨g1, g2⟩, g3⟩, g4⟩, g5⟩, g6⟩ := h5
  simp [Cond.before, Cond.holds, Cond.value, h1, h2, h3, h4, g1, g2, g3, g4, g5, g6]
def isCode : Jvm.Cond → Bool
  | .code _ _ _ _ => true
  | _ => false
theorem all_split {L : List Jvm.Cond} {P : Jvm.Cond → Bool} (h1 : L.all (fun c => isCode c || P c) = true) (h2 : ∀ c ∈ L.filter isCode, P c = true) : L.all P = true := by
  refine List.all_eq_true.mpr fun c hc => ?_
  have h := List.all_eq_true.mp h1 c hc
  rcases Bool.eq_false_or_eq_true (isCode c) with hi | hi
  · exact h2 c (List.mem_filter.mpr ⟨hc, hi⟩)
  · simpa [hi] using h
set_option maxRecDepth 65536 in
theorem w_c0 : (Jvm.Cond.code x code maxLocals ret).before args0 about1 = true := code_word (m := ⟨1, 1⟩) (meth := k1m1) (c := k1c1) (by decide +kernel) rfl rfl rfl (by decide +kernel)
set_option maxRecDepth 65536 in
theorem w_c1 : (Jvm.Cond.code ({ cls := "com/example/framebeat/framebeat/DisplayEvent", name := "<init>", desc := "()V" } : Jvm.MethodName) prog_4_method_1_code (1 : Nat) (Option.none : Option Jvm.ClassFile.FieldType)).before args0 about1 = true := code_word (m := ⟨7, 0⟩) (meth := k7m0) (c := k7c0) (by decide +kernel) rfl rfl rfl (by decide +kernel)
set_option maxRecDepth 65536 in
theorem w_c2 : (Jvm.Cond.code ({ cls := "java/lang/Object", name := "<init>", desc := "()V" } : Jvm.MethodName) object_method_1_code (1 : Nat) (Option.none : Option Jvm.ClassFile.FieldType)).before args0 about1 = true := code_word (m := ⟨0, 0⟩) (meth := k0m0) (c := k0c0) (by decide +kernel) rfl rfl rfl (by decide +kernel)
set_option maxRecDepth 65536 in
theorem w_c3 : (Jvm.Cond.code ({ cls := "com/example/framebeat/framebeat/DisplayEvent", name := "set", desc := "(Lcom/example/framebeat/framebeat/DisplayEvent$Kind;JJJZZ)V" } : Jvm.MethodName) prog_4_method_11_code (10 : Nat) (Option.none : Option Jvm.ClassFile.FieldType)).before args0 about1 = true := code_word (m := ⟨7, 9⟩) (meth := k7m9) (c := k7c9) (by decide +kernel) rfl rfl rfl (by decide +kernel)
set_option maxRecDepth 65536 in
theorem w_c4 : (Jvm.Cond.code ({ cls := "com/example/framebeat/framebeat/DisplayEvent", name := "kind", desc := "()Lcom/example/framebeat/framebeat/DisplayEvent$Kind;" } : Jvm.MethodName) prog_4_method_2_code (1 : Nat) (Option.some (Jvm.ClassFile.FieldType.object "com/example/framebeat/framebeat/DisplayEvent$Kind"))).before args0 about1 = true := code_word (m := ⟨7, 1⟩) (meth := k7m1) (c := k7c1) (by decide +kernel) rfl rfl rfl (by decide +kernel)
set_option maxRecDepth 65536 in
theorem w_c5 : (Jvm.Cond.code ({ cls := "com/example/framebeat/framebeat/DisplayEvent", name := "displayId", desc := "()J" } : Jvm.MethodName) prog_4_method_3_code (1 : Nat) (Option.some Jvm.ClassFile.FieldType.long)).before args0 about1 = true := code_word (m := ⟨7, 2⟩) (meth := k7m2) (c := k7c2) (by decide +kernel) rfl rfl rfl (by decide +kernel)
set_option maxRecDepth 65536 in
theorem w_c6 : (Jvm.Cond.code ({ cls := "com/example/framebeat/framebeat/DisplayEvent", name := "timestampNanos", desc := "()J" } : Jvm.MethodName) prog_4_method_4_code (1 : Nat) (Option.some Jvm.ClassFile.FieldType.long)).before args0 about1 = true := code_word (m := ⟨7, 3⟩) (meth := k7m3) (c := k7c3) (by decide +kernel) rfl rfl rfl (by decide +kernel)
set_option maxRecDepth 65536 in
theorem w_c7 : (Jvm.Cond.code ({ cls := "com/example/framebeat/framebeat/DisplayEvent", name := "isSubstitute", desc := "()Z" } : Jvm.MethodName) prog_4_method_8_code (1 : Nat) (Option.some Jvm.ClassFile.FieldType.boolean)).before args0 about1 = true := code_word (m := ⟨7, 7⟩) (meth := k7m7) (c := k7c7) (by decide +kernel) rfl rfl rfl (by decide +kernel)
set_option maxRecDepth 65536 in
theorem w_c8 : (Jvm.Cond.code ({ cls := "com/example/framebeat/framebeat/DisplayEvent", name := "isSynthetic", desc := "()Z" } : Jvm.MethodName) prog_4_method_9_code (1 : Nat) (Option.some Jvm.ClassFile.FieldType.boolean)).before args0 about1 = true := code_word (m := ⟨7, 8⟩) (meth := k7m8) (c := k7c8) (by decide +kernel) rfl rfl rfl (by decide +kernel)
set_option maxRecDepth 65536 in
theorem w_c9 : (Jvm.Cond.code ({ cls := "com/example/framebeat/framebeat/DisplayEvent", name := "count", desc := "()J" } : Jvm.MethodName) prog_4_method_5_code (1 : Nat) (Option.some Jvm.ClassFile.FieldType.long)).before args0 about1 = true := code_word (m := ⟨7, 4⟩) (meth := k7m4) (c := k7c4) (by decide +kernel) rfl rfl rfl (by decide +kernel)
set_option maxRecDepth 65536 in
theorem w_c10 : (Jvm.Cond.code ({ cls := "com/example/framebeat/framebeat/DisplayEvent", name := "valueOf", desc := "(Lcom/example/framebeat/framebeat/DisplayEvent$Kind;Ljava/lang/String;)J" } : Jvm.MethodName) prog_4_method_13_code (3 : Nat) (Option.some Jvm.ClassFile.FieldType.long)).before args0 about1 = true := code_word (m := ⟨7, 10⟩) (meth := k7m10) (c := k7c10) (by decide +kernel) rfl rfl rfl (by decide +kernel)
set_option maxRecDepth 65536 in
theorem w_c11 : (Jvm.Cond.code ({ cls := "com/example/framebeat/framebeat/DisplayEvent", name := "isConnected", desc := "()Z" } : Jvm.MethodName) prog_4_method_6_code (1 : Nat) (Option.some Jvm.ClassFile.FieldType.boolean)).before args0 about1 = true := code_word (m := ⟨7, 5⟩) (meth := k7m5) (c := k7c5) (by decide +kernel) rfl rfl rfl (by decide +kernel)
set_option maxRecDepth 65536 in
theorem w_c12 : (Jvm.Cond.code ({ cls := "com/example/framebeat/framebeat/DisplayEvent", name := "periodNanos", desc := "()J" } : Jvm.MethodName) prog_4_method_7_code (1 : Nat) (Option.some Jvm.ClassFile.FieldType.long)).before args0 about1 = true := code_word (m := ⟨7, 6⟩) (meth := k7m6) (c := k7c6) (by decide +kernel) rfl rfl rfl (by decide +kernel)
def codes1 : List Jvm.Cond := [Jvm.Cond.code x code maxLocals ret, Jvm.Cond.code ({ cls := "com/example/framebeat/framebeat/DisplayEvent", name := "<init>", desc := "()V" } : Jvm.MethodName) prog_4_method_1_code (1 : Nat) (Option.none : Option Jvm.ClassFile.FieldType), Jvm.Cond.code ({ cls := "java/lang/Object", name := "<init>", desc := "()V" } : Jvm.MethodName) object_method_1_code (1 : Nat) (Option.none : Option Jvm.ClassFile.FieldType), Jvm.Cond.code ({ cls := "com/example/framebeat/framebeat/DisplayEvent", name := "set", desc := "(Lcom/example/framebeat/framebeat/DisplayEvent$Kind;JJJZZ)V" } : Jvm.MethodName) prog_4_method_11_code (10 : Nat) (Option.none : Option Jvm.ClassFile.FieldType), Jvm.Cond.code ({ cls := "com/example/framebeat/framebeat/DisplayEvent", name := "kind", desc := "()Lcom/example/framebeat/framebeat/DisplayEvent$Kind;" } : Jvm.MethodName) prog_4_method_2_code (1 : Nat) (Option.some (Jvm.ClassFile.FieldType.object "com/example/framebeat/framebeat/DisplayEvent$Kind")), Jvm.Cond.code ({ cls := "com/example/framebeat/framebeat/DisplayEvent", name := "displayId", desc := "()J" } : Jvm.MethodName) prog_4_method_3_code (1 : Nat) (Option.some Jvm.ClassFile.FieldType.long), Jvm.Cond.code ({ cls := "com/example/framebeat/framebeat/DisplayEvent", name := "timestampNanos", desc := "()J" } : Jvm.MethodName) prog_4_method_4_code (1 : Nat) (Option.some Jvm.ClassFile.FieldType.long), Jvm.Cond.code ({ cls := "com/example/framebeat/framebeat/DisplayEvent", name := "isSubstitute", desc := "()Z" } : Jvm.MethodName) prog_4_method_8_code (1 : Nat) (Option.some Jvm.ClassFile.FieldType.boolean), Jvm.Cond.code ({ cls := "com/example/framebeat/framebeat/DisplayEvent", name := "isSynthetic", desc := "()Z" } : Jvm.MethodName) prog_4_method_9_code (1 : Nat) (Option.some Jvm.ClassFile.FieldType.boolean), Jvm.Cond.code ({ cls := "com/example/framebeat/framebeat/DisplayEvent", name := "count", desc := "()J" } : Jvm.MethodName) prog_4_method_5_code (1 : Nat) (Option.some Jvm.ClassFile.FieldType.long), Jvm.Cond.code ({ cls := "com/example/framebeat/framebeat/DisplayEvent", name := "valueOf", desc := "(Lcom/example/framebeat/framebeat/DisplayEvent$Kind;Ljava/lang/String;)J" } : Jvm.MethodName) prog_4_method_13_code (3 : Nat) (Option.some Jvm.ClassFile.FieldType.long), Jvm.Cond.code ({ cls := "com/example/framebeat/framebeat/DisplayEvent", name := "isConnected", desc := "()Z" } : Jvm.MethodName) prog_4_method_6_code (1 : Nat) (Option.some Jvm.ClassFile.FieldType.boolean), Jvm.Cond.code ({ cls := "com/example/framebeat/framebeat/DisplayEvent", name := "periodNanos", desc := "()J" } : Jvm.MethodName) prog_4_method_7_code (1 : Nat) (Option.some Jvm.ClassFile.FieldType.long)]
set_option maxRecDepth 65536 in
theorem codes_eq : words1.filter isCode = codes1 := rfl
theorem w_codes : ∀ c ∈ words1.filter isCode, c.before args0 about1 = true := by
  rw [codes_eq]
  intro c hc
  simp only [codes1, List.mem_cons, List.not_mem_nil, or_false] at hc
  rcases hc with rfl | rfl | rfl | rfl | rfl | rfl | rfl | rfl | rfl | rfl | rfl | rfl | rfl
  · exact w_c0
  · exact w_c1
  · exact w_c2
  · exact w_c3
  · exact w_c4
  · exact w_c5
  · exact w_c6
  · exact w_c7
  · exact w_c8
  · exact w_c9
  · exact w_c10
  · exact w_c11
  · exact w_c12
set_option maxRecDepth 65536 in
theorem w_t1 : (words1.take 24).all (fun c => isCode c || c.before args0 about1) = true := by decide +kernel
set_option maxRecDepth 65536 in
theorem w_t2 : ((words1.drop 24).take 24).all (fun c => isCode c || c.before args0 about1) = true := by decide +kernel
set_option maxRecDepth 65536 in
theorem w_t3 : (((words1.drop 24).drop 24).take 24).all (fun c => isCode c || c.before args0 about1) = true := by decide +kernel
set_option maxRecDepth 65536 in
theorem w_t4 : (((words1.drop 24).drop 24).drop 24).all (fun c => isCode c || c.before args0 about1) = true := by decide +kernel
theorem w_tables : (allAtoms (Jvm.Cond.code x code maxLocals ret :: tables_1)).before args0 about1 = true := by
  rw [allAtoms_all]
  show words1.all (fun c => c.before args0 about1) = true
  refine all_split ?_ w_codes
  rw [← List.take_append_drop 24 words1, List.all_append, w_t1, ← List.take_append_drop 24 (words1.drop 24), List.all_append, w_t2, ← List.take_append_drop 24 ((words1.drop 24).drop 24), List.all_append, w_t3, w_t4]
  rfl
set_option maxRecDepth 65536 in
theorem w_case : (Jvm.Cond.and given_1 narrow_1).before args0 about1 = true := by decide +kernel
theorem w_applies : (headSpec (Jvm.Cond.code x code maxLocals ret :: tables_1) room_1).applies x e0.platform about1 = true :=
  (Spec.applies_iff w_frames).mpr ⟨w_running, w_runnable, w_alone, w_named, w_hears, w_ripe, w_room, w_tables⟩
theorem atStart : AtStart classFile x code maxLocals ret World_1 tables_1 room_1 Calls_1 rest_1 Pre_1 launch0 p0 e0 about1 theMethod args0 below0 :=
  ⟨lists_1, trivial, launch0.admits_env _ _ _, launch0.least_env, fairChoices_fair.cas, fairChoices_fair.clock, w_frames, w_args, w_heap, w_applies, trivial, trivial, w_case⟩
end start1
theorem witness_1 : WitnessClaimed_1 := ⟨start1.p0, start1.e0, start1.about1, start1.theMethod, start1.args0, start1.below0, start1.atStart⟩
end Jvm.Pilot.@@N@@
