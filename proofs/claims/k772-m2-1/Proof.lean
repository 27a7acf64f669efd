import JvmDerived
import JvmDerived.Pilot.@@N@@Statement
import JvmDerived.Pilot.@@N@@Code
set_option linter.unusedVariables false
set_option linter.unusedSimpArgs false
namespace Jvm.Pilot.@@N@@
open Jvm Jvm.ClassFile Sem Op Lib Jvm.Free Jvm.Stand Jvm.LawKit Jvm.RoadKit Bundle Jvm.Pilot.@@N@@.Jvm.D
/-! own_Done: from frame F on top of T the run comes to its end, and R holds there -/
def own_Done (tb : Tables) (e : Env) (below : List Frame) (R : Outcome → State → Prop) (T : State) (F : JFrame) : Prop :=
  ∃ s₂ o, Steps tb e below (T.setTop F) s₂ ∧ s₂.status = .running ∧ Ended s₂ below o ∧ R o s₂
def own_R (Qq : Option Value → Heap → List Loc → Prop) (s : State) (C S : Nat) : Outcome → State → Prop :=
  fun o U => ∃ v L, o = .returned v ∧ Qq v U.heap L ∧ FrameEnd s o U L C S
def own_RW (Qq : Option Value → Heap → List Loc → Prop) (s : State) (C S : Nat) : Outcome → State → Prop :=
  fun o U => ∃ v L, o = .returned v ∧ Qq v U.heap L ∧ ReturnedEndW s o U L C S
theorem own_st {tb : Tables} {e : Env} {below : List Frame} {R : Outcome → State → Prop} {T T' : State} {F F' : JFrame} (k : ∀ t, Steps tb e below (T'.setTop F') t → Steps tb e below (T.setTop F) t) (d : own_Done tb e below R T' F') : own_Done tb e below R T F := by
  obtain ⟨a, o, h1, h2⟩ := d
  exact ⟨a, o, k a h1, h2⟩
theorem own_tr {tb : Tables} {e : Env} {below : List Frame} {R : Outcome → State → Prop} {T T' : State} {F F' : JFrame} (k : Steps tb e below (T.setTop F) (T'.setTop F')) (d : own_Done tb e below R T' F') : own_Done tb e below R T F := by
  obtain ⟨a, o, h1, h2⟩ := d
  exact ⟨a, o, k.trans h1, h2⟩
section Own
variable {p : Program} {l : Launch} {e : Env} {Rm : Room} {s : State} {m : MethodId} {args : Array Value} {below : List Frame} {meth : Method} {c : Code} {T : State} {locs : List Loc} {cells slots : Nat}
theorem own_ret (X : Stand p l e Rm s m args below meth c T locs cells slots) (hx : p.tables.exec = Jvm.exec) {pc : Nat} {Ls : Array Slot} {w : Value} {t : FieldType} {i : Instr} {rest : List Value} (hret : meth.sig.returnType = some t) (hn : narrow t w = w)
    (hi : (i = .ireturn ∧ (t = .int ∨ t = .boolean ∨ t = .byte ∨ t = .char ∨ t = .short) ∧ ∃ z, w = .int z) ∨ (i = .lreturn ∧ t = .long ∧ ∃ z, w = .long z) ∨ (i = .dreturn ∧ t = .double ∧ ∃ z, w = .double z) ∨ (i = .freturn ∧ t = .float ∧ ∃ z, w = .float z) ∨ (i = .areturn ∧ t.isReference = true ∧ w.isRef = true))
    (hd : decode c.code pc = .ok (i, 1)) (hlk : meth.locks = false) {Qq : Option Value → Heap → List Loc → Prop} {C S : Nat} (hQ : Qq (some w) T.heap locs) (hc : cells ≤ C) (hs : slots ≤ S) :
    own_Done p.tables e below (own_R Qq s C S) T (mkF m pc Ls (w :: rest)) := by
  obtain ⟨fs, hr, hrun, hended, hW, hsame⟩ := X.leave (v := some w) (fun h => by rw [hret] at h; cases h) hlk
  exact ⟨_, _, retOut X hx hret hn hi hd hr, hrun, hended, _, _, rfl, hQ, ⟨_, rfl⟩, hW, hsame.mono hc hs⟩
theorem own_retI (X : Stand p l e Rm s m args below meth c T locs cells slots) (hx : p.tables.exec = Jvm.exec) {pc : Nat} {Ls : Array Slot} {z : Int32} {rest : List Value} (hret : meth.sig.returnType = some .int) (hd : decode c.code pc = .ok (.ireturn, 1)) (hlk : meth.locks = false)
    {Qq : Option Value → Heap → List Loc → Prop} {C S : Nat} (hQ : Qq (some (.int z)) T.heap locs) (hc : cells ≤ C) (hs : slots ≤ S) : own_Done p.tables e below (own_R Qq s C S) T (mkF m pc Ls (.int z :: rest)) :=
  own_ret X hx hret rfl (Or.inl ⟨rfl, Or.inl rfl, _, rfl⟩) hd hlk hQ hc hs
theorem own_retN (X : Stand p l e Rm s m args below meth c T locs cells slots) (hx : p.tables.exec = Jvm.exec) {pc : Nat} {Ls : Array Slot} {z : Int32} {t : FieldType} {rest : List Value} (hret : meth.sig.returnType = some t) (ht : t = .boolean ∨ t = .byte ∨ t = .char ∨ t = .short) (hn : narrow t (.int z) = .int z) (hd : decode c.code pc = .ok (.ireturn, 1)) (hlk : meth.locks = false)
    {Qq : Option Value → Heap → List Loc → Prop} {C S : Nat} (hQ : Qq (some (.int z)) T.heap locs) (hc : cells ≤ C) (hs : slots ≤ S) : own_Done p.tables e below (own_R Qq s C S) T (mkF m pc Ls (.int z :: rest)) :=
  own_ret X hx hret hn (Or.inl ⟨rfl, Or.inr ht, _, rfl⟩) hd hlk hQ hc hs
theorem own_retJ (X : Stand p l e Rm s m args below meth c T locs cells slots) (hx : p.tables.exec = Jvm.exec) {pc : Nat} {Ls : Array Slot} {z : Int64} {rest : List Value} (hret : meth.sig.returnType = some .long) (hd : decode c.code pc = .ok (.lreturn, 1)) (hlk : meth.locks = false)
    {Qq : Option Value → Heap → List Loc → Prop} {C S : Nat} (hQ : Qq (some (.long z)) T.heap locs) (hc : cells ≤ C) (hs : slots ≤ S) : own_Done p.tables e below (own_R Qq s C S) T (mkF m pc Ls (.long z :: rest)) :=
  own_ret X hx hret rfl (Or.inr (Or.inl ⟨rfl, rfl, _, rfl⟩)) hd hlk hQ hc hs
theorem own_narrow {t : FieldType} {v : Value} (h : v.isRef = true) : narrow t v = v := by
  rcases ref_cases h with rfl | ⟨a, rfl⟩ <;> cases t <;> rfl
theorem own_retA (X : Stand p l e Rm s m args below meth c T locs cells slots) (hx : p.tables.exec = Jvm.exec) {pc : Nat} {Ls : Array Slot} {w : Value} {t : FieldType} {rest : List Value} (hret : meth.sig.returnType = some t) (ht : t.isReference = true) (hw : w.isRef = true) (hd : decode c.code pc = .ok (.areturn, 1)) (hlk : meth.locks = false)
    {Qq : Option Value → Heap → List Loc → Prop} {C S : Nat} (hQ : Qq (some w) T.heap locs) (hc : cells ≤ C) (hs : slots ≤ S) : own_Done p.tables e below (own_R Qq s C S) T (mkF m pc Ls (w :: rest)) :=
  own_ret X hx hret (own_narrow hw) (Or.inr (Or.inr (Or.inr (Or.inr ⟨rfl, ht, hw⟩)))) hd hlk hQ hc hs
theorem own_retV (X : Stand p l e Rm s m args below meth c T locs cells slots) (hx : p.tables.exec = Jvm.exec) {pc : Nat} {Ls : Array Slot} (hret : meth.sig.returnType = none) (hd : decode c.code pc = .ok (.return_, 1)) (hlk : meth.locks = false)
    {Qq : Option Value → Heap → List Loc → Prop} {C S : Nat} (hQ : Qq none T.heap locs) (hc : cells ≤ C) (hs : slots ≤ S) : own_Done p.tables e below (own_R Qq s C S) T (mkF m pc Ls []) := by
  obtain ⟨fs, hr, hrun, hended, hW, hsame⟩ := X.leave (v := none) (fun _ => rfl) hlk
  exact ⟨_, _, X.returnOut hx hret hd hr, hrun, hended, _, _, rfl, hQ, ⟨_, rfl⟩, hW, hsame.mono hc hs⟩
theorem own_retW {vm₁ : Vm} (X : Stand p l e Rm (s.setVm vm₁) m args below meth c T locs cells slots) (hx : p.tables.exec = Jvm.exec) {pc : Nat} {Ls : Array Slot} {w : Value} {t : FieldType} {i : Instr} {rest : List Value} (hret : meth.sig.returnType = some t) (hn : narrow t w = w)
    (hi : (i = .ireturn ∧ (t = .int ∨ t = .boolean ∨ t = .byte ∨ t = .char ∨ t = .short) ∧ ∃ z, w = .int z) ∨ (i = .lreturn ∧ t = .long ∧ ∃ z, w = .long z) ∨ (i = .dreturn ∧ t = .double ∧ ∃ z, w = .double z) ∨ (i = .freturn ∧ t = .float ∧ ∃ z, w = .float z) ∨ (i = .areturn ∧ t.isReference = true ∧ w.isRef = true))
    {ks : Nat} (hS : s.Since vm₁ ks) (hk : ks ≤ T.heap.size) (hd : decode c.code pc = .ok (i, 1)) (hlk : meth.locks = false) {Qq : Option Value → Heap → List Loc → Prop} {C S : Nat} (hQ : Qq (some w) T.heap locs) (hc : cells ≤ C) (hs : slots ≤ S) :
    own_Done p.tables e below (own_RW Qq s C S) T (mkF m pc Ls (w :: rest)) := by
  obtain ⟨fs, hr, hrun, hended, hW⟩ := X.leaveW hS hk (v := some w) (fun h => by rw [hret] at h; cases h) hlk
  exact ⟨_, _, retOut X hx hret hn hi hd hr, hrun, hended, _, _, rfl, hQ, hW.1, hW.2.1, hW.2.2.1, hW.2.2.2.mono hc hs⟩
theorem own_retIW {vm₁ : Vm} (X : Stand p l e Rm (s.setVm vm₁) m args below meth c T locs cells slots) (hx : p.tables.exec = Jvm.exec) {pc : Nat} {Ls : Array Slot} {z : Int32} {rest : List Value} (hret : meth.sig.returnType = some .int) {ks : Nat} (hS : s.Since vm₁ ks) (hk : ks ≤ T.heap.size) (hd : decode c.code pc = .ok (.ireturn, 1)) (hlk : meth.locks = false)
    {Qq : Option Value → Heap → List Loc → Prop} {C S : Nat} (hQ : Qq (some (.int z)) T.heap locs) (hc : cells ≤ C) (hs : slots ≤ S) : own_Done p.tables e below (own_RW Qq s C S) T (mkF m pc Ls (.int z :: rest)) :=
  own_retW X hx hret rfl (Or.inl ⟨rfl, Or.inl rfl, _, rfl⟩) hS hk hd hlk hQ hc hs
theorem own_retNW {vm₁ : Vm} (X : Stand p l e Rm (s.setVm vm₁) m args below meth c T locs cells slots) (hx : p.tables.exec = Jvm.exec) {pc : Nat} {Ls : Array Slot} {z : Int32} {t : FieldType} {rest : List Value} (hret : meth.sig.returnType = some t) (ht : t = .boolean ∨ t = .byte ∨ t = .char ∨ t = .short) (hn : narrow t (.int z) = .int z) {ks : Nat} (hS : s.Since vm₁ ks) (hk : ks ≤ T.heap.size) (hd : decode c.code pc = .ok (.ireturn, 1)) (hlk : meth.locks = false)
    {Qq : Option Value → Heap → List Loc → Prop} {C S : Nat} (hQ : Qq (some (.int z)) T.heap locs) (hc : cells ≤ C) (hs : slots ≤ S) : own_Done p.tables e below (own_RW Qq s C S) T (mkF m pc Ls (.int z :: rest)) :=
  own_retW X hx hret hn (Or.inl ⟨rfl, Or.inr ht, _, rfl⟩) hS hk hd hlk hQ hc hs
theorem own_retJW {vm₁ : Vm} (X : Stand p l e Rm (s.setVm vm₁) m args below meth c T locs cells slots) (hx : p.tables.exec = Jvm.exec) {pc : Nat} {Ls : Array Slot} {z : Int64} {rest : List Value} (hret : meth.sig.returnType = some .long) {ks : Nat} (hS : s.Since vm₁ ks) (hk : ks ≤ T.heap.size) (hd : decode c.code pc = .ok (.lreturn, 1)) (hlk : meth.locks = false)
    {Qq : Option Value → Heap → List Loc → Prop} {C S : Nat} (hQ : Qq (some (.long z)) T.heap locs) (hc : cells ≤ C) (hs : slots ≤ S) : own_Done p.tables e below (own_RW Qq s C S) T (mkF m pc Ls (.long z :: rest)) :=
  own_retW X hx hret rfl (Or.inr (Or.inl ⟨rfl, rfl, _, rfl⟩)) hS hk hd hlk hQ hc hs
theorem own_mono (X : Stand p l e Rm s m args below meth c T locs cells slots) {C S : Nat} (hc : cells ≤ C) (hs : slots ≤ S) : Stand p l e Rm s m args below meth c T locs C S :=
  { X with same := X.same.mono hc hs }
end Own
theorem own_cI {z : Int32} : (Value.int z).category = 1 := rfl
theorem own_cJ {z : Int64} : (Value.long z).category = 2 := rfl
theorem own_cR {a : Addr} : (Value.ref a).category = 1 := rfl
theorem own_cN : Value.null.category = 1 := rfl
theorem own_cat1 {v : Value} (h : v.isRef = true) : v.category = 1 := by rcases ref_cases h with rfl | ⟨a, rfl⟩ <;> rfl
theorem own_fits {t : FieldType} {v : Value} (ht : t.isReference = true) (h : v.isRef = true) : fits t v = true := by rcases ref_cases h with rfl | ⟨a, rfl⟩ <;> cases t <;> first | rfl | cases ht
theorem own_nb {z : Int32} (h : z = 0 ∨ z = 1) : narrow .boolean (.int z) = .int z := by rcases h with rfl | rfl <;> rfl
theorem own_fb {z : Int32} (h : z = 0 ∨ z = 1) : fits .boolean (.int z) = true := by rcases h with rfl | rfl <;> rfl
theorem own_ext_refl (h : Heap) : Ext h h := ⟨Nat.le_refl _, fun _ _ q => q⟩
theorem own_ext_trans {h h' h2 : Heap} (A : Ext h h') (B : Ext h' h2) : Ext h h2 := ⟨Nat.le_trans A.1 B.1, fun a c q => B.2 a c (A.2 a c q)⟩
theorem own_O_wr {Z : State} {h h' : Heap} {a : Addr} {sl : Nat} {v : Value} (A : Ext Z.heap h) (B : Wr h h' a sl v) (q : Z.heap.size ≤ a) : Ext Z.heap h' := (Old.wr (⟨rfl, A⟩ : Old Z Z.heap.size h) B q).2
theorem own_O_keep {Z : State} {h h' : Heap} {ws : List Addr} (A : Ext Z.heap h) (B : Keep h h' ws) (q : ∀ a ∈ ws, Z.heap.size ≤ a) : Ext Z.heap h' := (Old.keep (⟨rfl, A⟩ : Old Z Z.heap.size h) B q).2
theorem own_eq_int {args : Array Value} {s : State} {t : Term} {k : Int32} (h : (Jvm.Cond.eq t (Term.int k)).value args s none s [] = some true) : t.eval args s none [] s = some (.int k) := by
  obtain ⟨u, v, h1, h2, h3, h4⟩ := cmp_v (Or.inl h)
  have h5 : v = .int k := (Option.some.inj h2).symm
  subst h5
  obtain ⟨z, rfl⟩ := h4
  rw [h1]
  simp only [Jvm.Cond.value, h1, h2, Option.some.injEq, decide_eq_true_eq] at h
  rw [h]
theorem own_fld_int {args : Array Value} {s : State} {t : Term} {C n d : String} {a : Addr} {k : Int32} (ht : t.eval args s none [] s = some (.ref a)) (h : (Jvm.Cond.eq (Term.field t C n d) (Term.int k)).value args s none s [] = some true) : s.fieldOf? a C n d = some (.int k) :=
  (fld_at ht).symm.trans (own_eq_int h)
theorem own_eq_ref {args : Array Value} {s : State} {t u : Term} {a : Addr} (h : (Jvm.Cond.eq t u).value args s none s [] = some true) (hu : u.eval args s none [] s = some (.ref a)) : t.eval args s none [] s = some (.ref a) := by
  obtain ⟨x1, y1, h1, h2, h3, h4⟩ := cmp_v (Or.inl h)
  obtain rfl : y1 = .ref a := Option.some.inj (h2.symm.trans hu)
  have hr : x1.isRef = true := by cases x1 <;> first | rfl | (simp [Kin] at h3; done) | exact h3.1
  have e := gotT (eq_R h1 h2 hr rfl) h
  rw [h1, e]
theorem own_len {args : Array Value} {s : State} {t : Term} {a : Addr} {cl : Cell} {n : Int32} (h : (Term.length t).eval args s none [] s = some (.int n)) (ht : t.eval args s none [] s = some (.ref a)) (hc : s.heap[a]? = some cl) : cl.slots.size < 2 ^ 31 ∧ cl.slots.size.toInt32 = n := by
  obtain ⟨a', cell, e1, e2, e3⟩ := Term.length_spec h
  cases ht.symm.trans e1
  cases hc.symm.trans (State.arrayAt?_spec e2).1
  by_cases q : cl.slots.size < 2 ^ 31
  · exact ⟨q, (Value.int.inj e3).symm⟩
  · simp [Term.eval, ht, e2, q] at h
theorem own_initFor {args : Array Value} {s : State} {C n d : String} (h1 : (Jvm.Cond.initializedFor C n d).before args s = true) (h2 : (Jvm.Cond.laysStatic C n d).before args s = true) : (Jvm.Cond.initialized C).before args s = true := by
  obtain ⟨c, k, i, f, a, cell, q1, q2, -⟩ := Cond.laysStatic_spec h2
  have q3 := Cond.initializedFor_spec q2 h1
  have q4 := State.fieldFound?_class q2
  simp [Cond.before, Cond.holds, Cond.value, q1, q4, q3]
theorem own_ns_root {Z : State} {a0 : Array Value} {Ob K : String} {n : Nat} (w : (Jvm.Cond.noSuperclass Ob).before a0 Z = true) (wk : (Jvm.Cond.instantiable K n).before a0 Z = true) (hn : Ob ≠ K) : NS Z Ob K := by
  obtain ⟨c, k, h1, h2, h3, -, -⟩ := Cond.noSuperclass_spec w
  obtain ⟨t, k2, g1, -⟩ := Cond.instantiable_spec wk
  have ne := ids_ne h1 g1 hn
  refine ⟨c, t, h1, g1, fun fuel => ?_⟩
  cases fuel with
  | zero => rfl
  | succ f => simp [Vm.isSubclassAux, ne, h2, h3]
theorem own_ns_no {Z : State} {a0 : Array Value} {C Sp K : String} {n : Nat} (w : (Jvm.Cond.superclass C Sp).before a0 Z = true) (wk : (Jvm.Cond.instantiable K n).before a0 Z = true) (ns : NS Z C K) (hn : C ≠ K) : ∃ c t, Z.vm.findClass C = some c ∧ Z.vm.findClass K = some t ∧ Z.vm.assignable c t = false := by
  obtain ⟨c, t, h0, g0, n3⟩ := ns
  obtain ⟨p, k, kp, h1, h2, h3, h4, h5, -, h7⟩ := Cond.superclass_spec h0 w
  obtain ⟨t', k', g1, g2, g3, g4, -⟩ := Cond.instantiable_spec wk
  cases g0.symm.trans g1
  have g5 : k'.isInterface = false := by
    simp only [Bool.or_eq_false_iff] at g4
    exact g4.1
  have ne := ids_ne h0 g0 hn
  refine ⟨c, t, h0, g0, ?_⟩
  show Z.vm.assignableAux (255 + 1) c t = false
  simp [Vm.assignableAux, ne, h2, g2, h5, g3, g5, Vm.isSubclass, n3]
theorem own_ext_keep {h h' : Heap} (K : Keep h h' []) : Ext h h' := ⟨K.1, fun a c q => K.2.1 a c q (fun z => nomatch z)⟩
theorem own_sub_at {args : Array Value} {first s : State} {o : Option Outcome} {idx : List Nat} {t u : Term} {v w : Int32} (ha : t.eval args first o idx s = some (.int v)) (hb : u.eval args first o idx s = some (.int w)) : (Term.sub t u).eval args first o idx s = some (.int (v - w)) := by simp [Term.eval, ha, hb]
def own_Bx (Z : State) (h : Heap) (w : Value) (b q : Int32) : Prop := (w = .null ∧ b = 1) ∨ (b = 0 ∧ ∃ r : Addr, w = .ref r ∧ Exa Z h r "java/lang/Integer" ∧ Fld Z h r "java/lang/Integer" "value" "I" (.int q))
theorem own_Bx.ext {Z : State} {h h' : Heap} {w : Value} {b q : Int32} (B : own_Bx Z h w b q) (E : Ext h h') : own_Bx Z h' w b q := by
  rcases B with B | ⟨e, r, rfl, X, F⟩
  · exact Or.inl B
  · exact Or.inr ⟨e, r, rfl, X.ext E, F.ext E⟩
theorem own_Bx.keep {Z : State} {h h' : Heap} {w : Value} {b q : Int32} {a : Addr} {C : String} (B : own_Bx Z h w b q) (K : Keep h h' [a]) (X' : Exa Z h a C) (hn : "java/lang/Integer" ≠ C) : own_Bx Z h' w b q := by
  rcases B with B | ⟨e, r, rfl, X, F⟩
  · exact Or.inl B
  · exact Or.inr ⟨e, r, rfl, X.keep K, F.keep K (ninS (ne_exa X X' hn) nin0)⟩
theorem own_Bx.isRef {Z : State} {h : Heap} {w : Value} {b q : Int32} (B : own_Bx Z h w b q) : w.isRef = true := by
  rcases B with ⟨rfl, -⟩ | ⟨-, r, rfl, -, -⟩ <;> rfl
def own_eqv (b1 x1 b2 x2 : Int32) : Int32 := if b1 = 0 then (if b2 = 0 then (if x1 = x2 then 1 else 0) else 0) else (if b2 = 0 then 0 else 1)
theorem own_eqv_self (b z : Int32) : own_eqv b z b z = 1 := by
  unfold own_eqv
  by_cases h : b = 0 <;> simp [h]
theorem own_fld_uniq {Z : State} {h : Heap} {a : Addr} {C n d : String} {v w : Value} (F : Fld Z h a C n d v) (G : Fld Z h a C n d w) : v = w := by
  by_cases q : v = w
  · exact q
  · exact absurd rfl (F.ne G q)
theorem own_selects_private {args : Array Value} {s : State} {y : MethodName} {n : Nat} (hinst : (Jvm.Cond.instanceMethod y).before args s = true) (hpriv : (Jvm.Cond.privateMethod y).before args s = true) (hi : (Jvm.Cond.instantiable y.cls n).before args s = true) (hy : y.cls ≠ "java/lang/invoke/MethodHandle" ∧ y.cls ≠ "java/lang/invoke/VarHandle") : (Jvm.Cond.selects y.cls y y).before args s = true := by
  obtain ⟨mk, methM, hnamed, hmethM, hstM, habM⟩ := Cond.instanceMethod_spec hinst
  have hc := findClass_of_methodNamed hnamed
  obtain ⟨c, k, g1, g2, g3, g4, -⟩ := Cond.instantiable_spec hi
  cases hc.symm.trans g1
  have hf := State.methodFound?_of_named hnamed hy
  have hs : selectMethod {} s.vm mk.cls mk = .method mk := selectMethod_private hmethM (Cond.privateMethod_at hpriv mk methM hnamed hmethM)
  have g5 : k.isInterface = false := by
    simp only [Bool.or_eq_false_iff] at g4
    exact g4.1
  simp [Cond.before, Cond.holds, Cond.value, hc, hf, hnamed, hs, g2, g5]
def Ctx (Z : State) (a0 : Array Value) (w_INPUT : Addr) (w_ANIMATION : Addr) (w_INSETS_ANIMATION : Addr) (w_TRAVERSAL : Addr) (w_COMMIT : Addr) (w_VAL : Addr) (k_VAL : ClassId) : Prop := (∀ d ∈ tables_1, d.before a0 Z = true) ∧ Sta Z Z.heap "com/example/framebeat/framebeat/FrameScheduler$Kind" "INPUT" "Lcom/example/framebeat/framebeat/FrameScheduler$Kind;" (.ref w_INPUT) ∧ Exa Z Z.heap w_INPUT "com/example/framebeat/framebeat/FrameScheduler$Kind" ∧ Sta Z Z.heap "com/example/framebeat/framebeat/FrameScheduler$Kind" "ANIMATION" "Lcom/example/framebeat/framebeat/FrameScheduler$Kind;" (.ref w_ANIMATION) ∧ Exa Z Z.heap w_ANIMATION "com/example/framebeat/framebeat/FrameScheduler$Kind" ∧ Sta Z Z.heap "com/example/framebeat/framebeat/FrameScheduler$Kind" "INSETS_ANIMATION" "Lcom/example/framebeat/framebeat/FrameScheduler$Kind;" (.ref w_INSETS_ANIMATION) ∧ Exa Z Z.heap w_INSETS_ANIMATION "com/example/framebeat/framebeat/FrameScheduler$Kind" ∧ Sta Z Z.heap "com/example/framebeat/framebeat/FrameScheduler$Kind" "TRAVERSAL" "Lcom/example/framebeat/framebeat/FrameScheduler$Kind;" (.ref w_TRAVERSAL) ∧ Exa Z Z.heap w_TRAVERSAL "com/example/framebeat/framebeat/FrameScheduler$Kind" ∧ Sta Z Z.heap "com/example/framebeat/framebeat/FrameScheduler$Kind" "COMMIT" "Lcom/example/framebeat/framebeat/FrameScheduler$Kind;" (.ref w_COMMIT) ∧ Exa Z Z.heap w_COMMIT "com/example/framebeat/framebeat/FrameScheduler$Kind" ∧ Sta Z Z.heap "com/example/framebeat/framebeat/FrameScheduler$Kind" "$VALUES" "[Lcom/example/framebeat/framebeat/FrameScheduler$Kind;" (.ref w_VAL) ∧ Exa Z Z.heap w_VAL "[Lcom/example/framebeat/framebeat/FrameScheduler$Kind;" ∧ Arv Z Z.heap w_VAL k_VAL (.object "com/example/framebeat/framebeat/FrameScheduler$Kind") (5 : Int32) [(.ref w_INPUT), (.ref w_ANIMATION), (.ref w_INSETS_ANIMATION), (.ref w_TRAVERSAL), (.ref w_COMMIT)] .null ∧ True
def Q0 (Z : State) (v : Option Value) (h : Heap) (L : List Loc) : Prop := v = some (.int (1 : Int32)) ∧ Fr Z.heap.size L
def QP (Z : State) (r : Value) (h0 : Heap) (v : Option Value) (h : Heap) (L : List Loc) : Prop := v = some r ∧ Fr Z.heap.size L ∧ h = h0
def QA (Z : State) (k_VAL : ClassId) (w_INPUT w_ANIMATION w_INSETS_ANIMATION w_TRAVERSAL w_COMMIT : Addr) (h0 : Heap) (v : Option Value) (h : Heap) (L : List Loc) : Prop := v = some (.ref h0.size) ∧ Fr Z.heap.size L ∧ Ext h0 h ∧ Arv Z h h0.size k_VAL (.object "com/example/framebeat/framebeat/FrameScheduler$Kind") (5 : Int32) [(.ref w_INPUT), (.ref w_ANIMATION), (.ref w_INSETS_ANIMATION), (.ref w_TRAVERSAL), (.ref w_COMMIT)] .null
theorem d3_0 : decode prog_13_method_1_code 0 = .ok (.getstatic 19, 3) := by decide +kernel
theorem d3_3 : decode prog_13_method_1_code 3 = .ok (.invokevirtual 23, 3) := by decide +kernel
theorem d3_6 : decode prog_13_method_1_code 6 = .ok (.checkcast 24, 3) := by decide +kernel
theorem d3_9 : decode prog_13_method_1_code 9 = .ok (.areturn, 1) := by decide +kernel
theorem pn_0 : plainName "com/example/framebeat/framebeat/FrameScheduler$Kind" = true := by first | (simp [plainName, overriddenIn]; done) | decide +kernel
set_option maxRecDepth 65536 in
set_option maxHeartbeats 40000000 in
theorem rm3 (l : Launch) (Z : State) (a0 : Array Value) {w_INPUT : Addr} {w_ANIMATION : Addr} {w_INSETS_ANIMATION : Addr} {w_TRAVERSAL : Addr} {w_COMMIT : Addr} {w_VAL : Addr} {k_VAL : ClassId} (CX : Ctx Z a0 w_INPUT w_ANIMATION w_INSETS_ANIMATION w_TRAVERSAL w_COMMIT w_VAL k_VAL) (ws : List Jvm.Cond)  (h0 : Heap) (O : Ext Z.heap h0)  :
    MetFree l (⟨"com/example/framebeat/framebeat/FrameScheduler$Kind", "values", "()[Lcom/example/framebeat/framebeat/FrameScheduler$Kind;"⟩ : MethodName) (head1 (Jvm.Cond.code (⟨"com/example/framebeat/framebeat/FrameScheduler$Kind", "values", "()[Lcom/example/framebeat/framebeat/FrameScheduler$Kind;"⟩ : MethodName) prog_13_method_1_code 0 (some (.array (.object "com/example/framebeat/framebeat/FrameScheduler$Kind"))) :: ws) ({ frames := 1, cells := 1, slots := 5, locals := 14 } : Room)) (fun a U => a = #[] ∧ Z.Warmed39 U.vm ∧ U.heap = h0) (fun _ _ _ _ _ => True) (fun _ U o U' => ∃ v L, o = .returned v ∧ QA Z k_VAL w_INPUT w_ANIMATION w_INSETS_ANIMATION w_TRAVERSAL w_COMMIT h0 v U'.heap L ∧ FrameEnd U o U' L ({ frames := 1, cells := 1, slots := 5, locals := 14 } : Room).cells ({ frames := 1, cells := 1, slots := 5, locals := 14 } : Room).slots) := by
  refine MetFree.of_bodySF (plainFor_of_name pn_0) hisR ?_
  intro p e s m args below meth c s₁ Bd hml0 hP hK
  obtain ⟨rfl, hZ, hh⟩ := hP
  have CX0 := CX
  obtain ⟨hw, S_INPUT, E_INPUT, S_ANIMATION, E_ANIMATION, S_INSETS_ANIMATION, E_INSETS_ANIMATION, S_TRAVERSAL, E_TRAVERSAL, S_COMMIT, E_COMMIT, S_VAL, E_VAL, V_VAL, -⟩ := CX0
  have hx := Bd.exec
  have hby := Bd.bytes
  have hml : c.maxLocals = 0 := hml0
  have hown : s.vm.findClass "com/example/framebeat/framebeat/FrameScheduler$Kind" = some m.cls := findClass_of_methodNamed Bd.named
  have hnm := (name_of_methodNamed Bd.named Bd.method).1
  have hlk : meth.locks = false := BodyLoose.notSynchronized Bd
  have X0 : Stand p l e ({ frames := 1, cells := 1, slots := 5, locals := 14 } : Room) s m #[] below meth c s₁ [] 0 0 := Stand.of_body Bd
  have e0 : s₁.heap = h0 := by rw [← hh, Bd.state]; rfl
  have N := Fr.nil Z.heap.size
  show own_Done p.tables e below (own_R (QA Z k_VAL w_INPUT w_ANIMATION w_INSETS_ANIMATION w_TRAVERSAL w_COMMIT h0) s 1 5) s₁ (entryFrame m #[] 0)
  refine own_st (T' := s₁) (F' := (mkF m 0 #[] [])) (fun t k => castTop (by first | (simp [entryFrame, mkF, argsToLocals, Value.category]; done) | rfl) k) ?_
  obtain ⟨T1, X1, e1, st1⟩ := getS2 X0 hx hZ hown (host := "") (Or.inl (hw _ (List.mem_of_getElem? (i := 13) rfl))) Via.refl e0 (S_VAL.ext O) (g := (mkF m 0 #[] [])) rfl (hb hby d3_0)
  refine own_st (T' := T1) (F' := (mkF m 3 #[] [(.ref w_VAL)])) st1 ?_
  obtain ⟨T2, h2, X2, e2, E2, A2, B2, st2⟩ := cloneH X1 hx hZ hown (hw _ (List.mem_of_getElem? (i := 15) rfl)) (hw _ (List.mem_of_getElem? (i := 16) rfl)) (hw _ (List.mem_of_getElem? (i := 20) rfl)) (hw _ (List.mem_of_getElem? (i := 18) rfl)) (hw _ (List.mem_of_getElem? (i := 19) rfl)) (hw _ (List.mem_of_getElem? (i := 21) rfl)) e1 ((V_VAL.ext O).arh) (E_VAL.ext O) (g := (mkF m 3 #[] [(.ref w_VAL)])) rfl (by rw [hml]; rfl) rfl (hb hby d3_3) (by decide) (W := 0) (by show 2 * 0 + _ ≤ _; exact Nat.le_of_eq rfl) (by decide) (cap := 5) (by decide) (by decide) (by decide)
  obtain ⟨b2, g2⟩ : ∃ z, z = h0.size := ⟨_, rfl⟩
  rw [← g2] at A2 B2 st2
  have g_b2 : Z.heap.size ≤ b2 := Nat.le_trans O.1 (Nat.le_of_eq g2.symm)
  have O := own_ext_trans O E2
  have V_b2 : Arv Z h2 b2 k_VAL (.object "com/example/framebeat/framebeat/FrameScheduler$Kind") (5 : Int32) [(.ref w_INPUT), (.ref w_ANIMATION), (.ref w_INSETS_ANIMATION), (.ref w_TRAVERSAL), (.ref w_COMMIT)] .null := A2
  have E_b2 := B2
  refine own_st (T' := T2) (F' := (mkF m 6 #[] [(.ref b2)])) st2 ?_
  obtain ⟨T3, X3, e3, st3⟩ := castY X2 hx hZ hown (hw _ (List.mem_of_getElem? (i := 28) rfl)) e2 (Ins.self E_b2) (g := (mkF m 6 #[] [(.ref b2)])) rfl rfl (hb hby d3_6)
  refine own_st (T' := T3) (F' := (mkF m 9 #[] [(.ref b2)])) st3 ?_
  exact own_retA X3 hx (t := (.array (.object "com/example/framebeat/framebeat/FrameScheduler$Kind"))) Bd.returns rfl rfl (hb hby d3_9) hlk (by show QA Z k_VAL w_INPUT w_ANIMATION w_INSETS_ANIMATION w_TRAVERSAL w_COMMIT h0 _ T3.heap _; rw [e3]; exact by subst g2; exact ⟨rfl, N, E2, V_b2⟩) (by decide) (by decide)
def Q_rm1 (Z : State) (a1 : Addr) (u_phaseStartNanos : Value) (hu_phaseStartNanos : u_phaseStartNanos.isRef = true) (u_endNanos : Int64) (u_periodNanos : Int64) (u_intendedVsyncNanos : Int64) (u_frameTimeNanos : Int64) (u_startNanos : Int64) (u_missedVsyncs : Int64) (h0 : Heap) (v : Option Value) (h : Heap) (L : List Loc) : Prop := v = none ∧ Fr Z.heap.size L ∧ Keep h0 h [a1] ∧ Fld Z h a1 "com/example/framebeat/framebeat/FrameTimeline" "endNanos" "J" (.long u_endNanos) ∧ Fld Z h a1 "com/example/framebeat/framebeat/FrameTimeline" "periodNanos" "J" (.long u_periodNanos) ∧ Fld Z h a1 "com/example/framebeat/framebeat/FrameTimeline" "intendedVsyncNanos" "J" (.long u_intendedVsyncNanos) ∧ Fld Z h a1 "com/example/framebeat/framebeat/FrameTimeline" "frameTimeNanos" "J" (.long u_frameTimeNanos) ∧ Fld Z h a1 "com/example/framebeat/framebeat/FrameTimeline" "startNanos" "J" (.long u_startNanos) ∧ Fld Z h a1 "com/example/framebeat/framebeat/FrameTimeline" "missedVsyncs" "J" (.long u_missedVsyncs)
theorem d1_0 : decode prog_19_method_1_code 0 = .ok (.aload_n 0, 1) := by decide +kernel
theorem d1_1 : decode prog_19_method_1_code 1 = .ok (.invokespecial 1, 3) := by decide +kernel
theorem d1_4 : decode prog_19_method_1_code 4 = .ok (.aload_n 0, 1) := by decide +kernel
theorem d1_5 : decode prog_19_method_1_code 5 = .ok (.invokestatic 7, 3) := by decide +kernel
theorem d1_8 : decode prog_19_method_1_code 8 = .ok (.arraylength, 1) := by decide +kernel
theorem d1_9 : decode prog_19_method_1_code 9 = .ok (.newarray .long, 2) := by decide +kernel
theorem d1_11 : decode prog_19_method_1_code 11 = .ok (.putfield 13, 3) := by decide +kernel
theorem d1_14 : decode prog_19_method_1_code 14 = .ok (.return_, 1) := by decide +kernel
theorem pn_1 : plainName "com/example/framebeat/framebeat/FrameTimeline" = true := by first | (simp [plainName, overriddenIn]; done) | decide +kernel
theorem pd_0 : parseMethodDescriptor "()[Lcom/example/framebeat/framebeat/FrameScheduler$Kind;" = some ⟨[], some (.array (.object "com/example/framebeat/framebeat/FrameScheduler$Kind"))⟩ := by decide +kernel
set_option maxRecDepth 65536 in
set_option maxHeartbeats 40000000 in
theorem rm1 (l : Launch) (Z : State) (a0 : Array Value) {w_INPUT : Addr} {w_ANIMATION : Addr} {w_INSETS_ANIMATION : Addr} {w_TRAVERSAL : Addr} {w_COMMIT : Addr} {w_VAL : Addr} {k_VAL : ClassId} (CX : Ctx Z a0 w_INPUT w_ANIMATION w_INSETS_ANIMATION w_TRAVERSAL w_COMMIT w_VAL k_VAL) (ws : List Jvm.Cond) (a1 : Addr) (u_phaseStartNanos : Value) (hu_phaseStartNanos : u_phaseStartNanos.isRef = true) (u_endNanos : Int64) (u_periodNanos : Int64) (u_intendedVsyncNanos : Int64) (u_frameTimeNanos : Int64) (u_startNanos : Int64) (u_missedVsyncs : Int64) (h0 : Heap) (O : Ext Z.heap h0) (E_a1 : Exa Z h0 a1 "com/example/framebeat/framebeat/FrameTimeline") (g_a1 : Z.heap.size ≤ a1) (F_phaseStartNanos : Fld Z h0 a1 "com/example/framebeat/framebeat/FrameTimeline" "phaseStartNanos" "[J" u_phaseStartNanos) (F_endNanos : Fld Z h0 a1 "com/example/framebeat/framebeat/FrameTimeline" "endNanos" "J" (.long u_endNanos)) (F_periodNanos : Fld Z h0 a1 "com/example/framebeat/framebeat/FrameTimeline" "periodNanos" "J" (.long u_periodNanos)) (F_intendedVsyncNanos : Fld Z h0 a1 "com/example/framebeat/framebeat/FrameTimeline" "intendedVsyncNanos" "J" (.long u_intendedVsyncNanos)) (F_frameTimeNanos : Fld Z h0 a1 "com/example/framebeat/framebeat/FrameTimeline" "frameTimeNanos" "J" (.long u_frameTimeNanos)) (F_startNanos : Fld Z h0 a1 "com/example/framebeat/framebeat/FrameTimeline" "startNanos" "J" (.long u_startNanos)) (F_missedVsyncs : Fld Z h0 a1 "com/example/framebeat/framebeat/FrameTimeline" "missedVsyncs" "J" (.long u_missedVsyncs)) :
    MetFree l (⟨"com/example/framebeat/framebeat/FrameTimeline", "<init>", "()V"⟩ : MethodName) (head1 (Jvm.Cond.code (⟨"com/example/framebeat/framebeat/FrameTimeline", "<init>", "()V"⟩ : MethodName) prog_19_method_1_code 1 none :: ws) ({ frames := 2, cells := 2, slots := 10, locals := 26 } : Room)) (fun a U => a = #[(.ref a1)] ∧ Z.Warmed39 U.vm ∧ U.heap = h0) (fun _ _ _ _ _ => True) (fun _ U o U' => ∃ v L, o = .returned v ∧ Q_rm1 Z a1 u_phaseStartNanos hu_phaseStartNanos u_endNanos u_periodNanos u_intendedVsyncNanos u_frameTimeNanos u_startNanos u_missedVsyncs h0 v U'.heap L ∧ FrameEnd U o U' L ({ frames := 2, cells := 2, slots := 10, locals := 26 } : Room).cells ({ frames := 2, cells := 2, slots := 10, locals := 26 } : Room).slots) := by
  refine MetFree.of_bodySF (plainFor_of_name pn_1) hisR ?_
  intro p e s m args below meth c s₁ Bd hml0 hP hK
  obtain ⟨rfl, hZ, hh⟩ := hP
  have CX0 := CX
  obtain ⟨hw, S_INPUT, E_INPUT, S_ANIMATION, E_ANIMATION, S_INSETS_ANIMATION, E_INSETS_ANIMATION, S_TRAVERSAL, E_TRAVERSAL, S_COMMIT, E_COMMIT, S_VAL, E_VAL, V_VAL, -⟩ := CX0
  have hx := Bd.exec
  have hby := Bd.bytes
  have hml : c.maxLocals = 1 := hml0
  have hown : s.vm.findClass "com/example/framebeat/framebeat/FrameTimeline" = some m.cls := findClass_of_methodNamed Bd.named
  have hnm := (name_of_methodNamed Bd.named Bd.method).1
  have hlk : meth.locks = false := BodyLoose.notSynchronized Bd
  have X0 : Stand p l e ({ frames := 2, cells := 2, slots := 10, locals := 26 } : Room) s m #[(.ref a1)] below meth c s₁ [] 0 0 := Stand.of_body Bd
  have e0 : s₁.heap = h0 := by rw [← hh, Bd.state]; rfl
  have N := Fr.nil Z.heap.size
  show own_Done p.tables e below (own_R (Q_rm1 Z a1 u_phaseStartNanos hu_phaseStartNanos u_endNanos u_periodNanos u_intendedVsyncNanos u_frameTimeNanos u_startNanos u_missedVsyncs h0) s 2 10) s₁ (entryFrame m #[(.ref a1)] 1)
  refine own_st (T' := s₁) (F' := (mkF m 0 #[.val (.ref a1)] [])) (fun t k => castTop (by first | (simp [entryFrame, mkF, argsToLocals, Value.category]; done) | rfl) k) ?_
  have KP := Keep.refl h0 [a1]
  refine own_st (T' := s₁) (F' := (mkF m 1 #[.val (.ref a1)] [(.ref a1)])) (fun t k => XS.aloadN X0.here hx rfl (hb hby d1_0) rfl rfl k) ?_
  obtain ⟨T1, X1, e1, st1⟩ := initO X0 hx hZ hown (hw _ (List.mem_of_getElem? (i := 6) rfl)) (hw _ (List.mem_of_getElem? (i := 7) rfl)) (hw _ (List.mem_of_getElem? (i := 8) rfl)) e0 (g := (mkF m 1 #[.val (.ref a1)] [(.ref a1)])) rfl (by rw [hml]; rfl) rfl (hb hby d1_1) (by decide) (W := 0) (by show 2 * 0 + _ ≤ _; exact Nat.le_of_eq rfl) (by decide)
  refine own_st (T' := T1) (F' := (mkF m 4 #[.val (.ref a1)] [])) st1 ?_
  refine own_st (T' := T1) (F' := (mkF m 5 #[.val (.ref a1)] [(.ref a1)])) (fun t k => XS.aloadN X1.here hx rfl (hb hby d1_4) rfl rfl k) ?_
  obtain ⟨v2, _, ⟨T2, L2, k2, n2⟩, -, X2, ⟨Lc2, hQ2, l2, y2, z2⟩, st2⟩ := Jvm.LawKit.callS X1 hx (y := (⟨"com/example/framebeat/framebeat/FrameScheduler$Kind", "values", "()[Lcom/example/framebeat/framebeat/FrameScheduler$Kind;"⟩ : MethodName)) hown (mvT hZ (hw _ (List.mem_of_getElem? (i := 9) rfl))) (mvT hZ (hw _ (List.mem_of_getElem? (i := 10) rfl))) (mvT hZ (hw _ (List.mem_of_getElem? (i := 11) rfl))) (mvT hZ (hw _ (List.mem_of_getElem? (i := 12) rfl))) (by decide) (backOf (W := 1) (rm3 l Z a0 CX [] h0 O) hZ (hw _ (List.mem_of_getElem? (i := 12) rfl)) (hw _ (List.mem_of_getElem? (i := 11) rfl)) (by decide) (by decide)) (g := (mkF m 5 #[.val (.ref a1)] [(.ref a1)])) rfl (by rw [hml]; rfl) (argsL := []) (rest := [(.ref a1)]) (lenOf pd_0 rfl) rfl (by show 2 * 0 + _ ≤ _; exact Nat.le_of_eq rfl) (hb hby d1_5) (fun _ _ => ⟨rfl, e1, (by decide : 0 + 1 ≤ _), (by decide : 0 + 5 ≤ _)⟩)
  dsimp only [Pt.U, Pt.locs, Pt.cells, Pt.slots] at X2 l2 y2 z2 st2 hQ2
  subst l2 y2 z2
  obtain ⟨rfl, N2q, E2, V2⟩ := hQ2
  have N := Fr.app N N2q
  obtain ⟨b2, g2⟩ : ∃ z, z = h0.size := ⟨_, rfl⟩
  rw [← g2] at V2 st2
  have ne_a1_b2 : a1 ≠ b2 := Nat.ne_of_lt (Nat.lt_of_lt_of_le E_a1.lt (Nat.le_of_eq g2.symm))
  have g_b2 : Z.heap.size ≤ b2 := Nat.le_trans O.1 (Nat.le_of_eq g2.symm)
  have k_b2 : h0.size ≤ b2 := Nat.le_trans KP.1 (Nat.le_of_eq g2.symm)
  have E_a1 := E_a1.ext E2
  have F_phaseStartNanos := F_phaseStartNanos.ext E2
  have F_endNanos := F_endNanos.ext E2
  have F_periodNanos := F_periodNanos.ext E2
  have F_intendedVsyncNanos := F_intendedVsyncNanos.ext E2
  have F_frameTimeNanos := F_frameTimeNanos.ext E2
  have F_startNanos := F_startNanos.ext E2
  have F_missedVsyncs := F_missedVsyncs.ext E2
  have O := own_ext_trans O E2
  have KP := KP.ext E2
  have V_b2 := V2
  refine own_st (T' := T2) (F' := (mkF m 8 #[.val (.ref a1)] [(.ref b2), (.ref a1)])) st2 ?_
  have V3 := V_b2
  obtain ⟨cl3, Ar3, qa3, Sa3, Na3, Ha3, Ga3⟩ := V3
  refine own_st (T' := T2) (F' := (mkF m 9 #[.val (.ref a1)] [(.int (5 : Int32)), (.ref a1)])) (fun t k => X2.arraylength hx Ar3.1 (State.isArrayOf_alike hZ.alike Ar3.2.1) (g := (mkF m 8 #[.val (.ref a1)] [(.ref b2), (.ref a1)])) rfl rfl (hb hby d1_8) _ (by rw [(len_of Sa3 Na3)]; exact k)) ?_
  obtain ⟨T4, h4, k4, X4, e4, E4, A4, st4⟩ := newP X2 hx hZ (hw _ (List.mem_of_getElem? (i := 30) rfl)) rfl (g := (mkF m 9 #[.val (.ref a1)] [(.int (5 : Int32)), (.ref a1)])) rfl (hb hby d1_9) rfl (by decide) (cap := 5) (by decide) (by decide) (by decide) (by decide)
  obtain ⟨b4, g4⟩ : ∃ z, z = T2.heap.size := ⟨_, rfl⟩
  rw [← g4] at A4 st4
  have ne_a1_b4 : a1 ≠ b4 := Nat.ne_of_lt (Nat.lt_of_lt_of_le E_a1.lt (Nat.le_of_eq g4.symm))
  have ne_b2_b4 : b2 ≠ b4 := Nat.ne_of_lt (Nat.lt_of_lt_of_le V_b2.lt (Nat.le_of_eq g4.symm))
  have g_b4 : Z.heap.size ≤ b4 := Nat.le_trans O.1 (Nat.le_of_eq g4.symm)
  have k_b4 : h0.size ≤ b4 := Nat.le_trans KP.1 (Nat.le_of_eq g4.symm)
  have E_a1 := E_a1.ext E4
  have F_phaseStartNanos := F_phaseStartNanos.ext E4
  have F_endNanos := F_endNanos.ext E4
  have F_periodNanos := F_periodNanos.ext E4
  have F_intendedVsyncNanos := F_intendedVsyncNanos.ext E4
  have F_frameTimeNanos := F_frameTimeNanos.ext E4
  have F_startNanos := F_startNanos.ext E4
  have F_missedVsyncs := F_missedVsyncs.ext E4
  have V_b2 := V_b2.ext E4
  have O := own_ext_trans O E4
  have KP := KP.ext E4
  have V_b4 : Arv Z h4 b4 k4 .long (5 : Int32) [(.long (0 : Int64)), (.long (0 : Int64)), (.long (0 : Int64)), (.long (0 : Int64)), (.long (0 : Int64))] (.long (0 : Int64)) := (Arv.new A4 (by decide)).pad (pad_rep [] (.long (0 : Int64)) 5)
  refine own_st (T' := T4) (F' := (mkF m 11 #[.val (.ref a1)] [(.ref b4), (.ref a1)])) st4 ?_
  obtain ⟨T5, h5, X5, e5, W5, st5⟩ := putF X4 hx hZ hown (host := "") (Or.inl (hw _ (List.mem_of_getElem? (i := 31) rfl))) Via.refl e4 F_phaseStartNanos E_a1 (Or.inr ⟨(hw _ (List.mem_of_getElem? (i := 32) rfl)), rfl, hnm⟩) (hw _ (List.mem_of_getElem? (i := 1) rfl)) (ty := (.array .long)) (by decide) rfl rfl (g := (mkF m 11 #[.val (.ref a1)] [(.ref b4), (.ref a1)])) rfl rfl (hb hby d1_11)
  have E_a1 := E_a1.wr W5
  have F_endNanos := F_endNanos.other W5 (Or.inr (slot_ne (Or.inl (hw _ (List.mem_of_getElem? (i := 39) rfl))) (Or.inr (hw _ (List.mem_of_getElem? (i := 32) rfl))) (by decide) (t := .long) (t' := (.array .long)) (by decide) (by decide)))
  have F_periodNanos := F_periodNanos.other W5 (Or.inr (slot_ne (Or.inl (hw _ (List.mem_of_getElem? (i := 47) rfl))) (Or.inr (hw _ (List.mem_of_getElem? (i := 32) rfl))) (by decide) (t := .long) (t' := (.array .long)) (by decide) (by decide)))
  have F_intendedVsyncNanos := F_intendedVsyncNanos.other W5 (Or.inr (slot_ne (Or.inl (hw _ (List.mem_of_getElem? (i := 49) rfl))) (Or.inr (hw _ (List.mem_of_getElem? (i := 32) rfl))) (by decide) (t := .long) (t' := (.array .long)) (by decide) (by decide)))
  have F_frameTimeNanos := F_frameTimeNanos.other W5 (Or.inr (slot_ne (Or.inl (hw _ (List.mem_of_getElem? (i := 51) rfl))) (Or.inr (hw _ (List.mem_of_getElem? (i := 32) rfl))) (by decide) (t := .long) (t' := (.array .long)) (by decide) (by decide)))
  have F_startNanos := F_startNanos.other W5 (Or.inr (slot_ne (Or.inl (hw _ (List.mem_of_getElem? (i := 53) rfl))) (Or.inr (hw _ (List.mem_of_getElem? (i := 32) rfl))) (by decide) (t := .long) (t' := (.array .long)) (by decide) (by decide)))
  have F_missedVsyncs := F_missedVsyncs.other W5 (Or.inr (slot_ne (Or.inl (hw _ (List.mem_of_getElem? (i := 55) rfl))) (Or.inr (hw _ (List.mem_of_getElem? (i := 32) rfl))) (by decide) (t := .long) (t' := (.array .long)) (by decide) (by decide)))
  have V_b2 := V_b2.other W5 (Ne.symm ne_a1_b2)
  have V_b4 := V_b4.other W5 (Ne.symm ne_a1_b4)
  have O := own_O_wr O W5 g_a1
  have N := Fr.snoc X5 N g_a1
  have KP := KP.wr W5 (Or.inl (List.mem_of_getElem? (i := 0) rfl))
  have F_phaseStartNanos := F_phaseStartNanos.same W5
  refine own_st (T' := T5) (F' := (mkF m 14 #[.val (.ref a1)] [])) st5 ?_
  exact own_retV X5 hx Bd.returns (hb hby d1_14) hlk (by show Q_rm1 Z a1 u_phaseStartNanos hu_phaseStartNanos u_endNanos u_periodNanos u_intendedVsyncNanos u_frameTimeNanos u_startNanos u_missedVsyncs h0 _ T5.heap _; rw [e5]; exact ⟨rfl, N, KP, F_endNanos, F_periodNanos, F_intendedVsyncNanos, F_frameTimeNanos, F_startNanos, F_missedVsyncs⟩) (by decide) (by decide)
def Q_rm4 (Z : State) (a1 : Addr) (p1 : Int64) (u_endNanos : Int64) (u_periodNanos : Int64) (u_intendedVsyncNanos : Int64) (u_frameTimeNanos : Int64) (u_startNanos : Int64) (u_missedVsyncs : Int64) (h0 : Heap) (v : Option Value) (h : Heap) (L : List Loc) : Prop := v = none ∧ Fr Z.heap.size L ∧ Keep h0 h [a1] ∧ Fld Z h a1 "com/example/framebeat/framebeat/FrameTimeline" "endNanos" "J" (.long p1) ∧ Fld Z h a1 "com/example/framebeat/framebeat/FrameTimeline" "periodNanos" "J" (.long u_periodNanos) ∧ Fld Z h a1 "com/example/framebeat/framebeat/FrameTimeline" "intendedVsyncNanos" "J" (.long u_intendedVsyncNanos) ∧ Fld Z h a1 "com/example/framebeat/framebeat/FrameTimeline" "frameTimeNanos" "J" (.long u_frameTimeNanos) ∧ Fld Z h a1 "com/example/framebeat/framebeat/FrameTimeline" "startNanos" "J" (.long u_startNanos) ∧ Fld Z h a1 "com/example/framebeat/framebeat/FrameTimeline" "missedVsyncs" "J" (.long u_missedVsyncs)
theorem d4_0 : decode prog_19_method_11_code 0 = .ok (.aload_n 0, 1) := by decide +kernel
theorem d4_1 : decode prog_19_method_11_code 1 = .ok (.lload_n 1, 1) := by decide +kernel
theorem d4_2 : decode prog_19_method_11_code 2 = .ok (.putfield 36, 3) := by decide +kernel
theorem d4_5 : decode prog_19_method_11_code 5 = .ok (.return_, 1) := by decide +kernel
set_option maxRecDepth 65536 in
set_option maxHeartbeats 40000000 in
theorem rm4 (l : Launch) (Z : State) (a0 : Array Value) {w_INPUT : Addr} {w_ANIMATION : Addr} {w_INSETS_ANIMATION : Addr} {w_TRAVERSAL : Addr} {w_COMMIT : Addr} {w_VAL : Addr} {k_VAL : ClassId} (CX : Ctx Z a0 w_INPUT w_ANIMATION w_INSETS_ANIMATION w_TRAVERSAL w_COMMIT w_VAL k_VAL) (ws : List Jvm.Cond) (a1 : Addr) (p1 : Int64) (u_endNanos : Int64) (u_periodNanos : Int64) (u_intendedVsyncNanos : Int64) (u_frameTimeNanos : Int64) (u_startNanos : Int64) (u_missedVsyncs : Int64) (h0 : Heap) (O : Ext Z.heap h0) (E_a1 : Exa Z h0 a1 "com/example/framebeat/framebeat/FrameTimeline") (g_a1 : Z.heap.size ≤ a1) (F_endNanos : Fld Z h0 a1 "com/example/framebeat/framebeat/FrameTimeline" "endNanos" "J" (.long u_endNanos)) (F_periodNanos : Fld Z h0 a1 "com/example/framebeat/framebeat/FrameTimeline" "periodNanos" "J" (.long u_periodNanos)) (F_intendedVsyncNanos : Fld Z h0 a1 "com/example/framebeat/framebeat/FrameTimeline" "intendedVsyncNanos" "J" (.long u_intendedVsyncNanos)) (F_frameTimeNanos : Fld Z h0 a1 "com/example/framebeat/framebeat/FrameTimeline" "frameTimeNanos" "J" (.long u_frameTimeNanos)) (F_startNanos : Fld Z h0 a1 "com/example/framebeat/framebeat/FrameTimeline" "startNanos" "J" (.long u_startNanos)) (F_missedVsyncs : Fld Z h0 a1 "com/example/framebeat/framebeat/FrameTimeline" "missedVsyncs" "J" (.long u_missedVsyncs)) :
    MetFree l (⟨"com/example/framebeat/framebeat/FrameTimeline", "end", "(J)V"⟩ : MethodName) (head1 (Jvm.Cond.code (⟨"com/example/framebeat/framebeat/FrameTimeline", "end", "(J)V"⟩ : MethodName) prog_19_method_11_code 3 none :: ws) ({ frames := 0, cells := 0, slots := 0, locals := 0 } : Room)) (fun a U => a = #[(.ref a1), (.long p1)] ∧ Z.Warmed39 U.vm ∧ U.heap = h0) (fun _ _ _ _ _ => True) (fun _ U o U' => ∃ v L, o = .returned v ∧ Q_rm4 Z a1 p1 u_endNanos u_periodNanos u_intendedVsyncNanos u_frameTimeNanos u_startNanos u_missedVsyncs h0 v U'.heap L ∧ FrameEnd U o U' L ({ frames := 0, cells := 0, slots := 0, locals := 0 } : Room).cells ({ frames := 0, cells := 0, slots := 0, locals := 0 } : Room).slots) := by
  refine MetFree.of_bodySF (plainFor_of_name pn_1) hisR ?_
  intro p e s m args below meth c s₁ Bd hml0 hP hK
  obtain ⟨rfl, hZ, hh⟩ := hP
  have CX0 := CX
  obtain ⟨hw, S_INPUT, E_INPUT, S_ANIMATION, E_ANIMATION, S_INSETS_ANIMATION, E_INSETS_ANIMATION, S_TRAVERSAL, E_TRAVERSAL, S_COMMIT, E_COMMIT, S_VAL, E_VAL, V_VAL, -⟩ := CX0
  have hx := Bd.exec
  have hby := Bd.bytes
  have hml : c.maxLocals = 3 := hml0
  have hown : s.vm.findClass "com/example/framebeat/framebeat/FrameTimeline" = some m.cls := findClass_of_methodNamed Bd.named
  have hnm := (name_of_methodNamed Bd.named Bd.method).1
  have hlk : meth.locks = false := BodyLoose.notSynchronized Bd
  have X0 : Stand p l e ({ frames := 0, cells := 0, slots := 0, locals := 0 } : Room) s m #[(.ref a1), (.long p1)] below meth c s₁ [] 0 0 := Stand.of_body Bd
  have e0 : s₁.heap = h0 := by rw [← hh, Bd.state]; rfl
  have N := Fr.nil Z.heap.size
  show own_Done p.tables e below (own_R (Q_rm4 Z a1 p1 u_endNanos u_periodNanos u_intendedVsyncNanos u_frameTimeNanos u_startNanos u_missedVsyncs h0) s 0 0) s₁ (entryFrame m #[(.ref a1), (.long p1)] 3)
  refine own_st (T' := s₁) (F' := (mkF m 0 #[.val (.ref a1), .val (.long p1), .second] [])) (fun t k => castTop (by first | (simp [entryFrame, mkF, argsToLocals, Value.category]; done) | rfl) k) ?_
  have KP := Keep.refl h0 [a1]
  refine own_st (T' := s₁) (F' := (mkF m 1 #[.val (.ref a1), .val (.long p1), .second] [(.ref a1)])) (fun t k => XS.aloadN X0.here hx rfl (hb hby d4_0) rfl rfl k) ?_
  refine own_st (T' := s₁) (F' := (mkF m 2 #[.val (.ref a1), .val (.long p1), .second] [(.long p1), (.ref a1)])) (fun t k => XS.lloadN X0.here hx rfl (hb hby d4_1) rfl k) ?_
  obtain ⟨T1, h1, X1, e1, W1, st1⟩ := putF X0 hx hZ hown (host := "") (Or.inl (hw _ (List.mem_of_getElem? (i := 38) rfl))) Via.refl e0 F_endNanos E_a1 (Or.inl (hw _ (List.mem_of_getElem? (i := 39) rfl))) (hw _ (List.mem_of_getElem? (i := 1) rfl)) (ty := .long) (by decide) rfl rfl (g := (mkF m 2 #[.val (.ref a1), .val (.long p1), .second] [(.long p1), (.ref a1)])) rfl rfl (hb hby d4_2)
  have E_a1 := E_a1.wr W1
  have F_periodNanos := F_periodNanos.other W1 (Or.inr (slot_ne (Or.inl (hw _ (List.mem_of_getElem? (i := 47) rfl))) (Or.inl (hw _ (List.mem_of_getElem? (i := 39) rfl))) (by decide) (t := .long) (t' := .long) (by decide) (by decide)))
  have F_intendedVsyncNanos := F_intendedVsyncNanos.other W1 (Or.inr (slot_ne (Or.inl (hw _ (List.mem_of_getElem? (i := 49) rfl))) (Or.inl (hw _ (List.mem_of_getElem? (i := 39) rfl))) (by decide) (t := .long) (t' := .long) (by decide) (by decide)))
  have F_frameTimeNanos := F_frameTimeNanos.other W1 (Or.inr (slot_ne (Or.inl (hw _ (List.mem_of_getElem? (i := 51) rfl))) (Or.inl (hw _ (List.mem_of_getElem? (i := 39) rfl))) (by decide) (t := .long) (t' := .long) (by decide) (by decide)))
  have F_startNanos := F_startNanos.other W1 (Or.inr (slot_ne (Or.inl (hw _ (List.mem_of_getElem? (i := 53) rfl))) (Or.inl (hw _ (List.mem_of_getElem? (i := 39) rfl))) (by decide) (t := .long) (t' := .long) (by decide) (by decide)))
  have F_missedVsyncs := F_missedVsyncs.other W1 (Or.inr (slot_ne (Or.inl (hw _ (List.mem_of_getElem? (i := 55) rfl))) (Or.inl (hw _ (List.mem_of_getElem? (i := 39) rfl))) (by decide) (t := .long) (t' := .long) (by decide) (by decide)))
  have O := own_O_wr O W1 g_a1
  have N := Fr.snoc X1 N g_a1
  have KP := KP.wr W1 (Or.inl (List.mem_of_getElem? (i := 0) rfl))
  have F_endNanos := F_endNanos.same W1
  refine own_st (T' := T1) (F' := (mkF m 5 #[.val (.ref a1), .val (.long p1), .second] [])) st1 ?_
  exact own_retV X1 hx Bd.returns (hb hby d4_5) hlk (by show Q_rm4 Z a1 p1 u_endNanos u_periodNanos u_intendedVsyncNanos u_frameTimeNanos u_startNanos u_missedVsyncs h0 _ T1.heap _; rw [e1]; exact ⟨rfl, N, KP, F_endNanos, F_periodNanos, F_intendedVsyncNanos, F_frameTimeNanos, F_startNanos, F_missedVsyncs⟩) (by decide) (by decide)
def Q_rm5 (Z : State) (a1 : Addr) (p1 : Int64) (p2 : Int64) (p3 : Int64) (p4 : Int64) (p5 : Int64) (u_endNanos : Int64) (u_periodNanos : Int64) (u_intendedVsyncNanos : Int64) (u_frameTimeNanos : Int64) (u_startNanos : Int64) (u_missedVsyncs : Int64) (h0 : Heap) (v : Option Value) (h : Heap) (L : List Loc) : Prop := v = none ∧ Fr Z.heap.size L ∧ Keep h0 h [a1] ∧ Fld Z h a1 "com/example/framebeat/framebeat/FrameTimeline" "endNanos" "J" (.long u_endNanos) ∧ Fld Z h a1 "com/example/framebeat/framebeat/FrameTimeline" "periodNanos" "J" (.long p1) ∧ Fld Z h a1 "com/example/framebeat/framebeat/FrameTimeline" "intendedVsyncNanos" "J" (.long p2) ∧ Fld Z h a1 "com/example/framebeat/framebeat/FrameTimeline" "frameTimeNanos" "J" (.long p3) ∧ Fld Z h a1 "com/example/framebeat/framebeat/FrameTimeline" "startNanos" "J" (.long p4) ∧ Fld Z h a1 "com/example/framebeat/framebeat/FrameTimeline" "missedVsyncs" "J" (.long p5)
theorem d5_0 : decode prog_19_method_9_code 0 = .ok (.aload_n 0, 1) := by decide +kernel
theorem d5_1 : decode prog_19_method_9_code 1 = .ok (.lload_n 1, 1) := by decide +kernel
theorem d5_2 : decode prog_19_method_9_code 2 = .ok (.putfield 19, 3) := by decide +kernel
theorem d5_5 : decode prog_19_method_9_code 5 = .ok (.aload_n 0, 1) := by decide +kernel
theorem d5_6 : decode prog_19_method_9_code 6 = .ok (.lload_n 3, 1) := by decide +kernel
theorem d5_7 : decode prog_19_method_9_code 7 = .ok (.putfield 23, 3) := by decide +kernel
theorem d5_10 : decode prog_19_method_9_code 10 = .ok (.aload_n 0, 1) := by decide +kernel
theorem d5_11 : decode prog_19_method_9_code 11 = .ok (.lload 5, 2) := by decide +kernel
theorem d5_13 : decode prog_19_method_9_code 13 = .ok (.putfield 26, 3) := by decide +kernel
theorem d5_16 : decode prog_19_method_9_code 16 = .ok (.aload_n 0, 1) := by decide +kernel
theorem d5_17 : decode prog_19_method_9_code 17 = .ok (.lload 7, 2) := by decide +kernel
theorem d5_19 : decode prog_19_method_9_code 19 = .ok (.putfield 29, 3) := by decide +kernel
theorem d5_22 : decode prog_19_method_9_code 22 = .ok (.aload_n 0, 1) := by decide +kernel
theorem d5_23 : decode prog_19_method_9_code 23 = .ok (.lload 9, 2) := by decide +kernel
theorem d5_25 : decode prog_19_method_9_code 25 = .ok (.putfield 39, 3) := by decide +kernel
theorem d5_28 : decode prog_19_method_9_code 28 = .ok (.return_, 1) := by decide +kernel
set_option maxRecDepth 65536 in
set_option maxHeartbeats 40000000 in
theorem rm5 (l : Launch) (Z : State) (a0 : Array Value) {w_INPUT : Addr} {w_ANIMATION : Addr} {w_INSETS_ANIMATION : Addr} {w_TRAVERSAL : Addr} {w_COMMIT : Addr} {w_VAL : Addr} {k_VAL : ClassId} (CX : Ctx Z a0 w_INPUT w_ANIMATION w_INSETS_ANIMATION w_TRAVERSAL w_COMMIT w_VAL k_VAL) (ws : List Jvm.Cond) (a1 : Addr) (p1 : Int64) (p2 : Int64) (p3 : Int64) (p4 : Int64) (p5 : Int64) (u_endNanos : Int64) (u_periodNanos : Int64) (u_intendedVsyncNanos : Int64) (u_frameTimeNanos : Int64) (u_startNanos : Int64) (u_missedVsyncs : Int64) (h0 : Heap) (O : Ext Z.heap h0) (E_a1 : Exa Z h0 a1 "com/example/framebeat/framebeat/FrameTimeline") (g_a1 : Z.heap.size ≤ a1) (F_endNanos : Fld Z h0 a1 "com/example/framebeat/framebeat/FrameTimeline" "endNanos" "J" (.long u_endNanos)) (F_periodNanos : Fld Z h0 a1 "com/example/framebeat/framebeat/FrameTimeline" "periodNanos" "J" (.long u_periodNanos)) (F_intendedVsyncNanos : Fld Z h0 a1 "com/example/framebeat/framebeat/FrameTimeline" "intendedVsyncNanos" "J" (.long u_intendedVsyncNanos)) (F_frameTimeNanos : Fld Z h0 a1 "com/example/framebeat/framebeat/FrameTimeline" "frameTimeNanos" "J" (.long u_frameTimeNanos)) (F_startNanos : Fld Z h0 a1 "com/example/framebeat/framebeat/FrameTimeline" "startNanos" "J" (.long u_startNanos)) (F_missedVsyncs : Fld Z h0 a1 "com/example/framebeat/framebeat/FrameTimeline" "missedVsyncs" "J" (.long u_missedVsyncs)) :
    MetFree l (⟨"com/example/framebeat/framebeat/FrameTimeline", "begin", "(JJJJJ)V"⟩ : MethodName) (head1 (Jvm.Cond.code (⟨"com/example/framebeat/framebeat/FrameTimeline", "begin", "(JJJJJ)V"⟩ : MethodName) prog_19_method_9_code 11 none :: ws) ({ frames := 0, cells := 0, slots := 0, locals := 0 } : Room)) (fun a U => a = #[(.ref a1), (.long p1), (.long p2), (.long p3), (.long p4), (.long p5)] ∧ Z.Warmed39 U.vm ∧ U.heap = h0) (fun _ _ _ _ _ => True) (fun _ U o U' => ∃ v L, o = .returned v ∧ Q_rm5 Z a1 p1 p2 p3 p4 p5 u_endNanos u_periodNanos u_intendedVsyncNanos u_frameTimeNanos u_startNanos u_missedVsyncs h0 v U'.heap L ∧ FrameEnd U o U' L ({ frames := 0, cells := 0, slots := 0, locals := 0 } : Room).cells ({ frames := 0, cells := 0, slots := 0, locals := 0 } : Room).slots) := by
  refine MetFree.of_bodySF (plainFor_of_name pn_1) hisR ?_
  intro p e s m args below meth c s₁ Bd hml0 hP hK
  obtain ⟨rfl, hZ, hh⟩ := hP
  have CX0 := CX
  obtain ⟨hw, S_INPUT, E_INPUT, S_ANIMATION, E_ANIMATION, S_INSETS_ANIMATION, E_INSETS_ANIMATION, S_TRAVERSAL, E_TRAVERSAL, S_COMMIT, E_COMMIT, S_VAL, E_VAL, V_VAL, -⟩ := CX0
  have hx := Bd.exec
  have hby := Bd.bytes
  have hml : c.maxLocals = 11 := hml0
  have hown : s.vm.findClass "com/example/framebeat/framebeat/FrameTimeline" = some m.cls := findClass_of_methodNamed Bd.named
  have hnm := (name_of_methodNamed Bd.named Bd.method).1
  have hlk : meth.locks = false := BodyLoose.notSynchronized Bd
  have X0 : Stand p l e ({ frames := 0, cells := 0, slots := 0, locals := 0 } : Room) s m #[(.ref a1), (.long p1), (.long p2), (.long p3), (.long p4), (.long p5)] below meth c s₁ [] 0 0 := Stand.of_body Bd
  have e0 : s₁.heap = h0 := by rw [← hh, Bd.state]; rfl
  have N := Fr.nil Z.heap.size
  show own_Done p.tables e below (own_R (Q_rm5 Z a1 p1 p2 p3 p4 p5 u_endNanos u_periodNanos u_intendedVsyncNanos u_frameTimeNanos u_startNanos u_missedVsyncs h0) s 0 0) s₁ (entryFrame m #[(.ref a1), (.long p1), (.long p2), (.long p3), (.long p4), (.long p5)] 11)
  refine own_st (T' := s₁) (F' := (mkF m 0 #[.val (.ref a1), .val (.long p1), .second, .val (.long p2), .second, .val (.long p3), .second, .val (.long p4), .second, .val (.long p5), .second] [])) (fun t k => castTop (by first | (simp [entryFrame, mkF, argsToLocals, Value.category]; done) | rfl) k) ?_
  have KP := Keep.refl h0 [a1]
  refine own_st (T' := s₁) (F' := (mkF m 1 #[.val (.ref a1), .val (.long p1), .second, .val (.long p2), .second, .val (.long p3), .second, .val (.long p4), .second, .val (.long p5), .second] [(.ref a1)])) (fun t k => XS.aloadN X0.here hx rfl (hb hby d5_0) rfl rfl k) ?_
  refine own_st (T' := s₁) (F' := (mkF m 2 #[.val (.ref a1), .val (.long p1), .second, .val (.long p2), .second, .val (.long p3), .second, .val (.long p4), .second, .val (.long p5), .second] [(.long p1), (.ref a1)])) (fun t k => XS.lloadN X0.here hx rfl (hb hby d5_1) rfl k) ?_
  obtain ⟨T1, h1, X1, e1, W1, st1⟩ := putF X0 hx hZ hown (host := "") (Or.inl (hw _ (List.mem_of_getElem? (i := 46) rfl))) Via.refl e0 F_periodNanos E_a1 (Or.inl (hw _ (List.mem_of_getElem? (i := 47) rfl))) (hw _ (List.mem_of_getElem? (i := 1) rfl)) (ty := .long) (by decide) rfl rfl (g := (mkF m 2 #[.val (.ref a1), .val (.long p1), .second, .val (.long p2), .second, .val (.long p3), .second, .val (.long p4), .second, .val (.long p5), .second] [(.long p1), (.ref a1)])) rfl rfl (hb hby d5_2)
  have E_a1 := E_a1.wr W1
  have F_endNanos := F_endNanos.other W1 (Or.inr (slot_ne (Or.inl (hw _ (List.mem_of_getElem? (i := 39) rfl))) (Or.inl (hw _ (List.mem_of_getElem? (i := 47) rfl))) (by decide) (t := .long) (t' := .long) (by decide) (by decide)))
  have F_intendedVsyncNanos := F_intendedVsyncNanos.other W1 (Or.inr (slot_ne (Or.inl (hw _ (List.mem_of_getElem? (i := 49) rfl))) (Or.inl (hw _ (List.mem_of_getElem? (i := 47) rfl))) (by decide) (t := .long) (t' := .long) (by decide) (by decide)))
  have F_frameTimeNanos := F_frameTimeNanos.other W1 (Or.inr (slot_ne (Or.inl (hw _ (List.mem_of_getElem? (i := 51) rfl))) (Or.inl (hw _ (List.mem_of_getElem? (i := 47) rfl))) (by decide) (t := .long) (t' := .long) (by decide) (by decide)))
  have F_startNanos := F_startNanos.other W1 (Or.inr (slot_ne (Or.inl (hw _ (List.mem_of_getElem? (i := 53) rfl))) (Or.inl (hw _ (List.mem_of_getElem? (i := 47) rfl))) (by decide) (t := .long) (t' := .long) (by decide) (by decide)))
  have F_missedVsyncs := F_missedVsyncs.other W1 (Or.inr (slot_ne (Or.inl (hw _ (List.mem_of_getElem? (i := 55) rfl))) (Or.inl (hw _ (List.mem_of_getElem? (i := 47) rfl))) (by decide) (t := .long) (t' := .long) (by decide) (by decide)))
  have O := own_O_wr O W1 g_a1
  have N := Fr.snoc X1 N g_a1
  have KP := KP.wr W1 (Or.inl (List.mem_of_getElem? (i := 0) rfl))
  have F_periodNanos := F_periodNanos.same W1
  refine own_st (T' := T1) (F' := (mkF m 5 #[.val (.ref a1), .val (.long p1), .second, .val (.long p2), .second, .val (.long p3), .second, .val (.long p4), .second, .val (.long p5), .second] [])) st1 ?_
  refine own_st (T' := T1) (F' := (mkF m 6 #[.val (.ref a1), .val (.long p1), .second, .val (.long p2), .second, .val (.long p3), .second, .val (.long p4), .second, .val (.long p5), .second] [(.ref a1)])) (fun t k => XS.aloadN X1.here hx rfl (hb hby d5_5) rfl rfl k) ?_
  refine own_st (T' := T1) (F' := (mkF m 7 #[.val (.ref a1), .val (.long p1), .second, .val (.long p2), .second, .val (.long p3), .second, .val (.long p4), .second, .val (.long p5), .second] [(.long p2), (.ref a1)])) (fun t k => XS.lloadN X1.here hx rfl (hb hby d5_6) rfl k) ?_
  obtain ⟨T2, h2, X2, e2, W2, st2⟩ := putF X1 hx hZ hown (host := "") (Or.inl (hw _ (List.mem_of_getElem? (i := 48) rfl))) Via.refl e1 F_intendedVsyncNanos E_a1 (Or.inl (hw _ (List.mem_of_getElem? (i := 49) rfl))) (hw _ (List.mem_of_getElem? (i := 1) rfl)) (ty := .long) (by decide) rfl rfl (g := (mkF m 7 #[.val (.ref a1), .val (.long p1), .second, .val (.long p2), .second, .val (.long p3), .second, .val (.long p4), .second, .val (.long p5), .second] [(.long p2), (.ref a1)])) rfl rfl (hb hby d5_7)
  have E_a1 := E_a1.wr W2
  have F_endNanos := F_endNanos.other W2 (Or.inr (slot_ne (Or.inl (hw _ (List.mem_of_getElem? (i := 39) rfl))) (Or.inl (hw _ (List.mem_of_getElem? (i := 49) rfl))) (by decide) (t := .long) (t' := .long) (by decide) (by decide)))
  have F_periodNanos := F_periodNanos.other W2 (Or.inr (slot_ne (Or.inl (hw _ (List.mem_of_getElem? (i := 47) rfl))) (Or.inl (hw _ (List.mem_of_getElem? (i := 49) rfl))) (by decide) (t := .long) (t' := .long) (by decide) (by decide)))
  have F_frameTimeNanos := F_frameTimeNanos.other W2 (Or.inr (slot_ne (Or.inl (hw _ (List.mem_of_getElem? (i := 51) rfl))) (Or.inl (hw _ (List.mem_of_getElem? (i := 49) rfl))) (by decide) (t := .long) (t' := .long) (by decide) (by decide)))
  have F_startNanos := F_startNanos.other W2 (Or.inr (slot_ne (Or.inl (hw _ (List.mem_of_getElem? (i := 53) rfl))) (Or.inl (hw _ (List.mem_of_getElem? (i := 49) rfl))) (by decide) (t := .long) (t' := .long) (by decide) (by decide)))
  have F_missedVsyncs := F_missedVsyncs.other W2 (Or.inr (slot_ne (Or.inl (hw _ (List.mem_of_getElem? (i := 55) rfl))) (Or.inl (hw _ (List.mem_of_getElem? (i := 49) rfl))) (by decide) (t := .long) (t' := .long) (by decide) (by decide)))
  have O := own_O_wr O W2 g_a1
  have N := Fr.snoc X2 N g_a1
  have KP := KP.wr W2 (Or.inl (List.mem_of_getElem? (i := 0) rfl))
  have F_intendedVsyncNanos := F_intendedVsyncNanos.same W2
  refine own_st (T' := T2) (F' := (mkF m 10 #[.val (.ref a1), .val (.long p1), .second, .val (.long p2), .second, .val (.long p3), .second, .val (.long p4), .second, .val (.long p5), .second] [])) st2 ?_
  refine own_st (T' := T2) (F' := (mkF m 11 #[.val (.ref a1), .val (.long p1), .second, .val (.long p2), .second, .val (.long p3), .second, .val (.long p4), .second, .val (.long p5), .second] [(.ref a1)])) (fun t k => XS.aloadN X2.here hx rfl (hb hby d5_10) rfl rfl k) ?_
  refine own_st (T' := T2) (F' := (mkF m 13 #[.val (.ref a1), .val (.long p1), .second, .val (.long p2), .second, .val (.long p3), .second, .val (.long p4), .second, .val (.long p5), .second] [(.long p3), (.ref a1)])) (fun t k => XS.lload X2.here hx rfl (hb hby d5_11) rfl k) ?_
  obtain ⟨T3, h3, X3, e3, W3, st3⟩ := putF X2 hx hZ hown (host := "") (Or.inl (hw _ (List.mem_of_getElem? (i := 50) rfl))) Via.refl e2 F_frameTimeNanos E_a1 (Or.inl (hw _ (List.mem_of_getElem? (i := 51) rfl))) (hw _ (List.mem_of_getElem? (i := 1) rfl)) (ty := .long) (by decide) rfl rfl (g := (mkF m 13 #[.val (.ref a1), .val (.long p1), .second, .val (.long p2), .second, .val (.long p3), .second, .val (.long p4), .second, .val (.long p5), .second] [(.long p3), (.ref a1)])) rfl rfl (hb hby d5_13)
  have E_a1 := E_a1.wr W3
  have F_endNanos := F_endNanos.other W3 (Or.inr (slot_ne (Or.inl (hw _ (List.mem_of_getElem? (i := 39) rfl))) (Or.inl (hw _ (List.mem_of_getElem? (i := 51) rfl))) (by decide) (t := .long) (t' := .long) (by decide) (by decide)))
  have F_periodNanos := F_periodNanos.other W3 (Or.inr (slot_ne (Or.inl (hw _ (List.mem_of_getElem? (i := 47) rfl))) (Or.inl (hw _ (List.mem_of_getElem? (i := 51) rfl))) (by decide) (t := .long) (t' := .long) (by decide) (by decide)))
  have F_intendedVsyncNanos := F_intendedVsyncNanos.other W3 (Or.inr (slot_ne (Or.inl (hw _ (List.mem_of_getElem? (i := 49) rfl))) (Or.inl (hw _ (List.mem_of_getElem? (i := 51) rfl))) (by decide) (t := .long) (t' := .long) (by decide) (by decide)))
  have F_startNanos := F_startNanos.other W3 (Or.inr (slot_ne (Or.inl (hw _ (List.mem_of_getElem? (i := 53) rfl))) (Or.inl (hw _ (List.mem_of_getElem? (i := 51) rfl))) (by decide) (t := .long) (t' := .long) (by decide) (by decide)))
  have F_missedVsyncs := F_missedVsyncs.other W3 (Or.inr (slot_ne (Or.inl (hw _ (List.mem_of_getElem? (i := 55) rfl))) (Or.inl (hw _ (List.mem_of_getElem? (i := 51) rfl))) (by decide) (t := .long) (t' := .long) (by decide) (by decide)))
  have O := own_O_wr O W3 g_a1
  have N := Fr.snoc X3 N g_a1
  have KP := KP.wr W3 (Or.inl (List.mem_of_getElem? (i := 0) rfl))
  have F_frameTimeNanos := F_frameTimeNanos.same W3
  refine own_st (T' := T3) (F' := (mkF m 16 #[.val (.ref a1), .val (.long p1), .second, .val (.long p2), .second, .val (.long p3), .second, .val (.long p4), .second, .val (.long p5), .second] [])) st3 ?_
  refine own_st (T' := T3) (F' := (mkF m 17 #[.val (.ref a1), .val (.long p1), .second, .val (.long p2), .second, .val (.long p3), .second, .val (.long p4), .second, .val (.long p5), .second] [(.ref a1)])) (fun t k => XS.aloadN X3.here hx rfl (hb hby d5_16) rfl rfl k) ?_
  refine own_st (T' := T3) (F' := (mkF m 19 #[.val (.ref a1), .val (.long p1), .second, .val (.long p2), .second, .val (.long p3), .second, .val (.long p4), .second, .val (.long p5), .second] [(.long p4), (.ref a1)])) (fun t k => XS.lload X3.here hx rfl (hb hby d5_17) rfl k) ?_
  obtain ⟨T4, h4, X4, e4, W4, st4⟩ := putF X3 hx hZ hown (host := "") (Or.inl (hw _ (List.mem_of_getElem? (i := 52) rfl))) Via.refl e3 F_startNanos E_a1 (Or.inl (hw _ (List.mem_of_getElem? (i := 53) rfl))) (hw _ (List.mem_of_getElem? (i := 1) rfl)) (ty := .long) (by decide) rfl rfl (g := (mkF m 19 #[.val (.ref a1), .val (.long p1), .second, .val (.long p2), .second, .val (.long p3), .second, .val (.long p4), .second, .val (.long p5), .second] [(.long p4), (.ref a1)])) rfl rfl (hb hby d5_19)
  have E_a1 := E_a1.wr W4
  have F_endNanos := F_endNanos.other W4 (Or.inr (slot_ne (Or.inl (hw _ (List.mem_of_getElem? (i := 39) rfl))) (Or.inl (hw _ (List.mem_of_getElem? (i := 53) rfl))) (by decide) (t := .long) (t' := .long) (by decide) (by decide)))
  have F_periodNanos := F_periodNanos.other W4 (Or.inr (slot_ne (Or.inl (hw _ (List.mem_of_getElem? (i := 47) rfl))) (Or.inl (hw _ (List.mem_of_getElem? (i := 53) rfl))) (by decide) (t := .long) (t' := .long) (by decide) (by decide)))
  have F_intendedVsyncNanos := F_intendedVsyncNanos.other W4 (Or.inr (slot_ne (Or.inl (hw _ (List.mem_of_getElem? (i := 49) rfl))) (Or.inl (hw _ (List.mem_of_getElem? (i := 53) rfl))) (by decide) (t := .long) (t' := .long) (by decide) (by decide)))
  have F_frameTimeNanos := F_frameTimeNanos.other W4 (Or.inr (slot_ne (Or.inl (hw _ (List.mem_of_getElem? (i := 51) rfl))) (Or.inl (hw _ (List.mem_of_getElem? (i := 53) rfl))) (by decide) (t := .long) (t' := .long) (by decide) (by decide)))
  have F_missedVsyncs := F_missedVsyncs.other W4 (Or.inr (slot_ne (Or.inl (hw _ (List.mem_of_getElem? (i := 55) rfl))) (Or.inl (hw _ (List.mem_of_getElem? (i := 53) rfl))) (by decide) (t := .long) (t' := .long) (by decide) (by decide)))
  have O := own_O_wr O W4 g_a1
  have N := Fr.snoc X4 N g_a1
  have KP := KP.wr W4 (Or.inl (List.mem_of_getElem? (i := 0) rfl))
  have F_startNanos := F_startNanos.same W4
  refine own_st (T' := T4) (F' := (mkF m 22 #[.val (.ref a1), .val (.long p1), .second, .val (.long p2), .second, .val (.long p3), .second, .val (.long p4), .second, .val (.long p5), .second] [])) st4 ?_
  refine own_st (T' := T4) (F' := (mkF m 23 #[.val (.ref a1), .val (.long p1), .second, .val (.long p2), .second, .val (.long p3), .second, .val (.long p4), .second, .val (.long p5), .second] [(.ref a1)])) (fun t k => XS.aloadN X4.here hx rfl (hb hby d5_22) rfl rfl k) ?_
  refine own_st (T' := T4) (F' := (mkF m 25 #[.val (.ref a1), .val (.long p1), .second, .val (.long p2), .second, .val (.long p3), .second, .val (.long p4), .second, .val (.long p5), .second] [(.long p5), (.ref a1)])) (fun t k => XS.lload X4.here hx rfl (hb hby d5_23) rfl k) ?_
  obtain ⟨T5, h5, X5, e5, W5, st5⟩ := putF X4 hx hZ hown (host := "") (Or.inl (hw _ (List.mem_of_getElem? (i := 54) rfl))) Via.refl e4 F_missedVsyncs E_a1 (Or.inl (hw _ (List.mem_of_getElem? (i := 55) rfl))) (hw _ (List.mem_of_getElem? (i := 1) rfl)) (ty := .long) (by decide) rfl rfl (g := (mkF m 25 #[.val (.ref a1), .val (.long p1), .second, .val (.long p2), .second, .val (.long p3), .second, .val (.long p4), .second, .val (.long p5), .second] [(.long p5), (.ref a1)])) rfl rfl (hb hby d5_25)
  have E_a1 := E_a1.wr W5
  have F_endNanos := F_endNanos.other W5 (Or.inr (slot_ne (Or.inl (hw _ (List.mem_of_getElem? (i := 39) rfl))) (Or.inl (hw _ (List.mem_of_getElem? (i := 55) rfl))) (by decide) (t := .long) (t' := .long) (by decide) (by decide)))
  have F_periodNanos := F_periodNanos.other W5 (Or.inr (slot_ne (Or.inl (hw _ (List.mem_of_getElem? (i := 47) rfl))) (Or.inl (hw _ (List.mem_of_getElem? (i := 55) rfl))) (by decide) (t := .long) (t' := .long) (by decide) (by decide)))
  have F_intendedVsyncNanos := F_intendedVsyncNanos.other W5 (Or.inr (slot_ne (Or.inl (hw _ (List.mem_of_getElem? (i := 49) rfl))) (Or.inl (hw _ (List.mem_of_getElem? (i := 55) rfl))) (by decide) (t := .long) (t' := .long) (by decide) (by decide)))
  have F_frameTimeNanos := F_frameTimeNanos.other W5 (Or.inr (slot_ne (Or.inl (hw _ (List.mem_of_getElem? (i := 51) rfl))) (Or.inl (hw _ (List.mem_of_getElem? (i := 55) rfl))) (by decide) (t := .long) (t' := .long) (by decide) (by decide)))
  have F_startNanos := F_startNanos.other W5 (Or.inr (slot_ne (Or.inl (hw _ (List.mem_of_getElem? (i := 53) rfl))) (Or.inl (hw _ (List.mem_of_getElem? (i := 55) rfl))) (by decide) (t := .long) (t' := .long) (by decide) (by decide)))
  have O := own_O_wr O W5 g_a1
  have N := Fr.snoc X5 N g_a1
  have KP := KP.wr W5 (Or.inl (List.mem_of_getElem? (i := 0) rfl))
  have F_missedVsyncs := F_missedVsyncs.same W5
  refine own_st (T' := T5) (F' := (mkF m 28 #[.val (.ref a1), .val (.long p1), .second, .val (.long p2), .second, .val (.long p3), .second, .val (.long p4), .second, .val (.long p5), .second] [])) st5 ?_
  exact own_retV X5 hx Bd.returns (hb hby d5_28) hlk (by show Q_rm5 Z a1 p1 p2 p3 p4 p5 u_endNanos u_periodNanos u_intendedVsyncNanos u_frameTimeNanos u_startNanos u_missedVsyncs h0 _ T5.heap _; rw [e5]; exact ⟨rfl, N, KP, F_endNanos, F_periodNanos, F_intendedVsyncNanos, F_frameTimeNanos, F_startNanos, F_missedVsyncs⟩) (by decide) (by decide)
theorem d6_0 : decode prog_19_method_2_code 0 = .ok (.aload_n 0, 1) := by decide +kernel
theorem d6_1 : decode prog_19_method_2_code 1 = .ok (.getfield 19, 3) := by decide +kernel
theorem d6_4 : decode prog_19_method_2_code 4 = .ok (.lreturn, 1) := by decide +kernel
set_option maxRecDepth 65536 in
set_option maxHeartbeats 40000000 in
theorem rm6 (l : Launch) (Z : State) (a0 : Array Value) {w_INPUT : Addr} {w_ANIMATION : Addr} {w_INSETS_ANIMATION : Addr} {w_TRAVERSAL : Addr} {w_COMMIT : Addr} {w_VAL : Addr} {k_VAL : ClassId} (CX : Ctx Z a0 w_INPUT w_ANIMATION w_INSETS_ANIMATION w_TRAVERSAL w_COMMIT w_VAL k_VAL) (ws : List Jvm.Cond) (a1 : Addr) (r : Int64) (h0 : Heap) (O : Ext Z.heap h0) (F1 : Fld Z h0 a1 "com/example/framebeat/framebeat/FrameTimeline" "periodNanos" "J" (.long r)) :
    MetFree l (⟨"com/example/framebeat/framebeat/FrameTimeline", "periodNanos", "()J"⟩ : MethodName) (head1 (Jvm.Cond.code (⟨"com/example/framebeat/framebeat/FrameTimeline", "periodNanos", "()J"⟩ : MethodName) prog_19_method_2_code 1 (some .long) :: ws) ({ frames := 0, cells := 0, slots := 0, locals := 0 } : Room)) (fun a U => a = #[(.ref a1)] ∧ Z.Warmed39 U.vm ∧ U.heap = h0) (fun _ _ _ _ _ => True) (fun _ U o U' => ∃ v L, o = .returned v ∧ QP Z (.long r) h0 v U'.heap L ∧ FrameEnd U o U' L ({ frames := 0, cells := 0, slots := 0, locals := 0 } : Room).cells ({ frames := 0, cells := 0, slots := 0, locals := 0 } : Room).slots) := by
  refine MetFree.of_bodySF (plainFor_of_name pn_1) hisR ?_
  intro p e s m args below meth c s₁ Bd hml0 hP hK
  obtain ⟨rfl, hZ, hh⟩ := hP
  have CX0 := CX
  obtain ⟨hw, S_INPUT, E_INPUT, S_ANIMATION, E_ANIMATION, S_INSETS_ANIMATION, E_INSETS_ANIMATION, S_TRAVERSAL, E_TRAVERSAL, S_COMMIT, E_COMMIT, S_VAL, E_VAL, V_VAL, -⟩ := CX0
  have hx := Bd.exec
  have hby := Bd.bytes
  have hml : c.maxLocals = 1 := hml0
  have hown : s.vm.findClass "com/example/framebeat/framebeat/FrameTimeline" = some m.cls := findClass_of_methodNamed Bd.named
  have hnm := (name_of_methodNamed Bd.named Bd.method).1
  have hlk : meth.locks = false := BodyLoose.notSynchronized Bd
  have X0 : Stand p l e ({ frames := 0, cells := 0, slots := 0, locals := 0 } : Room) s m #[(.ref a1)] below meth c s₁ [] 0 0 := Stand.of_body Bd
  have e0 : s₁.heap = h0 := by rw [← hh, Bd.state]; rfl
  have N := Fr.nil Z.heap.size
  show own_Done p.tables e below (own_R (QP Z (.long r) h0) s 0 0) s₁ (entryFrame m #[(.ref a1)] 1)
  refine own_st (T' := s₁) (F' := (mkF m 0 #[.val (.ref a1)] [])) (fun t k => castTop (by first | (simp [entryFrame, mkF, argsToLocals, Value.category]; done) | rfl) k) ?_
  refine own_st (T' := s₁) (F' := (mkF m 1 #[.val (.ref a1)] [(.ref a1)])) (fun t k => XS.aloadN X0.here hx rfl (hb hby d6_0) rfl rfl k) ?_
  obtain ⟨T1, X1, e1, st1⟩ := getF X0 hx hZ hown (host := "") (Or.inl (hw _ (List.mem_of_getElem? (i := 46) rfl))) Via.refl e0 F1 (g := (mkF m 1 #[.val (.ref a1)] [(.ref a1)])) rfl rfl (hb hby d6_1)
  refine own_st (T' := T1) (F' := (mkF m 4 #[.val (.ref a1)] [(.long r)])) st1 ?_
  exact own_retJ X1 hx Bd.returns (hb hby d6_4) hlk (by show QP Z (.long r) h0 _ T1.heap _; rw [e1]; exact ⟨rfl, N, rfl⟩) (by decide) (by decide)
theorem d7_0 : decode prog_19_method_3_code 0 = .ok (.aload_n 0, 1) := by decide +kernel
theorem d7_1 : decode prog_19_method_3_code 1 = .ok (.getfield 23, 3) := by decide +kernel
theorem d7_4 : decode prog_19_method_3_code 4 = .ok (.lreturn, 1) := by decide +kernel
set_option maxRecDepth 65536 in
set_option maxHeartbeats 40000000 in
theorem rm7 (l : Launch) (Z : State) (a0 : Array Value) {w_INPUT : Addr} {w_ANIMATION : Addr} {w_INSETS_ANIMATION : Addr} {w_TRAVERSAL : Addr} {w_COMMIT : Addr} {w_VAL : Addr} {k_VAL : ClassId} (CX : Ctx Z a0 w_INPUT w_ANIMATION w_INSETS_ANIMATION w_TRAVERSAL w_COMMIT w_VAL k_VAL) (ws : List Jvm.Cond) (a1 : Addr) (r : Int64) (h0 : Heap) (O : Ext Z.heap h0) (F1 : Fld Z h0 a1 "com/example/framebeat/framebeat/FrameTimeline" "intendedVsyncNanos" "J" (.long r)) :
    MetFree l (⟨"com/example/framebeat/framebeat/FrameTimeline", "intendedVsyncNanos", "()J"⟩ : MethodName) (head1 (Jvm.Cond.code (⟨"com/example/framebeat/framebeat/FrameTimeline", "intendedVsyncNanos", "()J"⟩ : MethodName) prog_19_method_3_code 1 (some .long) :: ws) ({ frames := 0, cells := 0, slots := 0, locals := 0 } : Room)) (fun a U => a = #[(.ref a1)] ∧ Z.Warmed39 U.vm ∧ U.heap = h0) (fun _ _ _ _ _ => True) (fun _ U o U' => ∃ v L, o = .returned v ∧ QP Z (.long r) h0 v U'.heap L ∧ FrameEnd U o U' L ({ frames := 0, cells := 0, slots := 0, locals := 0 } : Room).cells ({ frames := 0, cells := 0, slots := 0, locals := 0 } : Room).slots) := by
  refine MetFree.of_bodySF (plainFor_of_name pn_1) hisR ?_
  intro p e s m args below meth c s₁ Bd hml0 hP hK
  obtain ⟨rfl, hZ, hh⟩ := hP
  have CX0 := CX
  obtain ⟨hw, S_INPUT, E_INPUT, S_ANIMATION, E_ANIMATION, S_INSETS_ANIMATION, E_INSETS_ANIMATION, S_TRAVERSAL, E_TRAVERSAL, S_COMMIT, E_COMMIT, S_VAL, E_VAL, V_VAL, -⟩ := CX0
  have hx := Bd.exec
  have hby := Bd.bytes
  have hml : c.maxLocals = 1 := hml0
  have hown : s.vm.findClass "com/example/framebeat/framebeat/FrameTimeline" = some m.cls := findClass_of_methodNamed Bd.named
  have hnm := (name_of_methodNamed Bd.named Bd.method).1
  have hlk : meth.locks = false := BodyLoose.notSynchronized Bd
  have X0 : Stand p l e ({ frames := 0, cells := 0, slots := 0, locals := 0 } : Room) s m #[(.ref a1)] below meth c s₁ [] 0 0 := Stand.of_body Bd
  have e0 : s₁.heap = h0 := by rw [← hh, Bd.state]; rfl
  have N := Fr.nil Z.heap.size
  show own_Done p.tables e below (own_R (QP Z (.long r) h0) s 0 0) s₁ (entryFrame m #[(.ref a1)] 1)
  refine own_st (T' := s₁) (F' := (mkF m 0 #[.val (.ref a1)] [])) (fun t k => castTop (by first | (simp [entryFrame, mkF, argsToLocals, Value.category]; done) | rfl) k) ?_
  refine own_st (T' := s₁) (F' := (mkF m 1 #[.val (.ref a1)] [(.ref a1)])) (fun t k => XS.aloadN X0.here hx rfl (hb hby d7_0) rfl rfl k) ?_
  obtain ⟨T1, X1, e1, st1⟩ := getF X0 hx hZ hown (host := "") (Or.inl (hw _ (List.mem_of_getElem? (i := 48) rfl))) Via.refl e0 F1 (g := (mkF m 1 #[.val (.ref a1)] [(.ref a1)])) rfl rfl (hb hby d7_1)
  refine own_st (T' := T1) (F' := (mkF m 4 #[.val (.ref a1)] [(.long r)])) st1 ?_
  exact own_retJ X1 hx Bd.returns (hb hby d7_4) hlk (by show QP Z (.long r) h0 _ T1.heap _; rw [e1]; exact ⟨rfl, N, rfl⟩) (by decide) (by decide)
theorem d8_0 : decode prog_19_method_4_code 0 = .ok (.aload_n 0, 1) := by decide +kernel
theorem d8_1 : decode prog_19_method_4_code 1 = .ok (.getfield 26, 3) := by decide +kernel
theorem d8_4 : decode prog_19_method_4_code 4 = .ok (.lreturn, 1) := by decide +kernel
set_option maxRecDepth 65536 in
set_option maxHeartbeats 40000000 in
theorem rm8 (l : Launch) (Z : State) (a0 : Array Value) {w_INPUT : Addr} {w_ANIMATION : Addr} {w_INSETS_ANIMATION : Addr} {w_TRAVERSAL : Addr} {w_COMMIT : Addr} {w_VAL : Addr} {k_VAL : ClassId} (CX : Ctx Z a0 w_INPUT w_ANIMATION w_INSETS_ANIMATION w_TRAVERSAL w_COMMIT w_VAL k_VAL) (ws : List Jvm.Cond) (a1 : Addr) (r : Int64) (h0 : Heap) (O : Ext Z.heap h0) (F1 : Fld Z h0 a1 "com/example/framebeat/framebeat/FrameTimeline" "frameTimeNanos" "J" (.long r)) :
    MetFree l (⟨"com/example/framebeat/framebeat/FrameTimeline", "frameTimeNanos", "()J"⟩ : MethodName) (head1 (Jvm.Cond.code (⟨"com/example/framebeat/framebeat/FrameTimeline", "frameTimeNanos", "()J"⟩ : MethodName) prog_19_method_4_code 1 (some .long) :: ws) ({ frames := 0, cells := 0, slots := 0, locals := 0 } : Room)) (fun a U => a = #[(.ref a1)] ∧ Z.Warmed39 U.vm ∧ U.heap = h0) (fun _ _ _ _ _ => True) (fun _ U o U' => ∃ v L, o = .returned v ∧ QP Z (.long r) h0 v U'.heap L ∧ FrameEnd U o U' L ({ frames := 0, cells := 0, slots := 0, locals := 0 } : Room).cells ({ frames := 0, cells := 0, slots := 0, locals := 0 } : Room).slots) := by
  refine MetFree.of_bodySF (plainFor_of_name pn_1) hisR ?_
  intro p e s m args below meth c s₁ Bd hml0 hP hK
  obtain ⟨rfl, hZ, hh⟩ := hP
  have CX0 := CX
  obtain ⟨hw, S_INPUT, E_INPUT, S_ANIMATION, E_ANIMATION, S_INSETS_ANIMATION, E_INSETS_ANIMATION, S_TRAVERSAL, E_TRAVERSAL, S_COMMIT, E_COMMIT, S_VAL, E_VAL, V_VAL, -⟩ := CX0
  have hx := Bd.exec
  have hby := Bd.bytes
  have hml : c.maxLocals = 1 := hml0
  have hown : s.vm.findClass "com/example/framebeat/framebeat/FrameTimeline" = some m.cls := findClass_of_methodNamed Bd.named
  have hnm := (name_of_methodNamed Bd.named Bd.method).1
  have hlk : meth.locks = false := BodyLoose.notSynchronized Bd
  have X0 : Stand p l e ({ frames := 0, cells := 0, slots := 0, locals := 0 } : Room) s m #[(.ref a1)] below meth c s₁ [] 0 0 := Stand.of_body Bd
  have e0 : s₁.heap = h0 := by rw [← hh, Bd.state]; rfl
  have N := Fr.nil Z.heap.size
  show own_Done p.tables e below (own_R (QP Z (.long r) h0) s 0 0) s₁ (entryFrame m #[(.ref a1)] 1)
  refine own_st (T' := s₁) (F' := (mkF m 0 #[.val (.ref a1)] [])) (fun t k => castTop (by first | (simp [entryFrame, mkF, argsToLocals, Value.category]; done) | rfl) k) ?_
  refine own_st (T' := s₁) (F' := (mkF m 1 #[.val (.ref a1)] [(.ref a1)])) (fun t k => XS.aloadN X0.here hx rfl (hb hby d8_0) rfl rfl k) ?_
  obtain ⟨T1, X1, e1, st1⟩ := getF X0 hx hZ hown (host := "") (Or.inl (hw _ (List.mem_of_getElem? (i := 50) rfl))) Via.refl e0 F1 (g := (mkF m 1 #[.val (.ref a1)] [(.ref a1)])) rfl rfl (hb hby d8_1)
  refine own_st (T' := T1) (F' := (mkF m 4 #[.val (.ref a1)] [(.long r)])) st1 ?_
  exact own_retJ X1 hx Bd.returns (hb hby d8_4) hlk (by show QP Z (.long r) h0 _ T1.heap _; rw [e1]; exact ⟨rfl, N, rfl⟩) (by decide) (by decide)
theorem d9_0 : decode prog_19_method_5_code 0 = .ok (.aload_n 0, 1) := by decide +kernel
theorem d9_1 : decode prog_19_method_5_code 1 = .ok (.getfield 29, 3) := by decide +kernel
theorem d9_4 : decode prog_19_method_5_code 4 = .ok (.lreturn, 1) := by decide +kernel
set_option maxRecDepth 65536 in
set_option maxHeartbeats 40000000 in
theorem rm9 (l : Launch) (Z : State) (a0 : Array Value) {w_INPUT : Addr} {w_ANIMATION : Addr} {w_INSETS_ANIMATION : Addr} {w_TRAVERSAL : Addr} {w_COMMIT : Addr} {w_VAL : Addr} {k_VAL : ClassId} (CX : Ctx Z a0 w_INPUT w_ANIMATION w_INSETS_ANIMATION w_TRAVERSAL w_COMMIT w_VAL k_VAL) (ws : List Jvm.Cond) (a1 : Addr) (r : Int64) (h0 : Heap) (O : Ext Z.heap h0) (F1 : Fld Z h0 a1 "com/example/framebeat/framebeat/FrameTimeline" "startNanos" "J" (.long r)) :
    MetFree l (⟨"com/example/framebeat/framebeat/FrameTimeline", "startNanos", "()J"⟩ : MethodName) (head1 (Jvm.Cond.code (⟨"com/example/framebeat/framebeat/FrameTimeline", "startNanos", "()J"⟩ : MethodName) prog_19_method_5_code 1 (some .long) :: ws) ({ frames := 0, cells := 0, slots := 0, locals := 0 } : Room)) (fun a U => a = #[(.ref a1)] ∧ Z.Warmed39 U.vm ∧ U.heap = h0) (fun _ _ _ _ _ => True) (fun _ U o U' => ∃ v L, o = .returned v ∧ QP Z (.long r) h0 v U'.heap L ∧ FrameEnd U o U' L ({ frames := 0, cells := 0, slots := 0, locals := 0 } : Room).cells ({ frames := 0, cells := 0, slots := 0, locals := 0 } : Room).slots) := by
  refine MetFree.of_bodySF (plainFor_of_name pn_1) hisR ?_
  intro p e s m args below meth c s₁ Bd hml0 hP hK
  obtain ⟨rfl, hZ, hh⟩ := hP
  have CX0 := CX
  obtain ⟨hw, S_INPUT, E_INPUT, S_ANIMATION, E_ANIMATION, S_INSETS_ANIMATION, E_INSETS_ANIMATION, S_TRAVERSAL, E_TRAVERSAL, S_COMMIT, E_COMMIT, S_VAL, E_VAL, V_VAL, -⟩ := CX0
  have hx := Bd.exec
  have hby := Bd.bytes
  have hml : c.maxLocals = 1 := hml0
  have hown : s.vm.findClass "com/example/framebeat/framebeat/FrameTimeline" = some m.cls := findClass_of_methodNamed Bd.named
  have hnm := (name_of_methodNamed Bd.named Bd.method).1
  have hlk : meth.locks = false := BodyLoose.notSynchronized Bd
  have X0 : Stand p l e ({ frames := 0, cells := 0, slots := 0, locals := 0 } : Room) s m #[(.ref a1)] below meth c s₁ [] 0 0 := Stand.of_body Bd
  have e0 : s₁.heap = h0 := by rw [← hh, Bd.state]; rfl
  have N := Fr.nil Z.heap.size
  show own_Done p.tables e below (own_R (QP Z (.long r) h0) s 0 0) s₁ (entryFrame m #[(.ref a1)] 1)
  refine own_st (T' := s₁) (F' := (mkF m 0 #[.val (.ref a1)] [])) (fun t k => castTop (by first | (simp [entryFrame, mkF, argsToLocals, Value.category]; done) | rfl) k) ?_
  refine own_st (T' := s₁) (F' := (mkF m 1 #[.val (.ref a1)] [(.ref a1)])) (fun t k => XS.aloadN X0.here hx rfl (hb hby d9_0) rfl rfl k) ?_
  obtain ⟨T1, X1, e1, st1⟩ := getF X0 hx hZ hown (host := "") (Or.inl (hw _ (List.mem_of_getElem? (i := 52) rfl))) Via.refl e0 F1 (g := (mkF m 1 #[.val (.ref a1)] [(.ref a1)])) rfl rfl (hb hby d9_1)
  refine own_st (T' := T1) (F' := (mkF m 4 #[.val (.ref a1)] [(.long r)])) st1 ?_
  exact own_retJ X1 hx Bd.returns (hb hby d9_4) hlk (by show QP Z (.long r) h0 _ T1.heap _; rw [e1]; exact ⟨rfl, N, rfl⟩) (by decide) (by decide)
theorem d10_0 : decode prog_19_method_8_code 0 = .ok (.aload_n 0, 1) := by decide +kernel
theorem d10_1 : decode prog_19_method_8_code 1 = .ok (.getfield 39, 3) := by decide +kernel
theorem d10_4 : decode prog_19_method_8_code 4 = .ok (.lreturn, 1) := by decide +kernel
set_option maxRecDepth 65536 in
set_option maxHeartbeats 40000000 in
theorem rm10 (l : Launch) (Z : State) (a0 : Array Value) {w_INPUT : Addr} {w_ANIMATION : Addr} {w_INSETS_ANIMATION : Addr} {w_TRAVERSAL : Addr} {w_COMMIT : Addr} {w_VAL : Addr} {k_VAL : ClassId} (CX : Ctx Z a0 w_INPUT w_ANIMATION w_INSETS_ANIMATION w_TRAVERSAL w_COMMIT w_VAL k_VAL) (ws : List Jvm.Cond) (a1 : Addr) (r : Int64) (h0 : Heap) (O : Ext Z.heap h0) (F1 : Fld Z h0 a1 "com/example/framebeat/framebeat/FrameTimeline" "missedVsyncs" "J" (.long r)) :
    MetFree l (⟨"com/example/framebeat/framebeat/FrameTimeline", "missedVsyncs", "()J"⟩ : MethodName) (head1 (Jvm.Cond.code (⟨"com/example/framebeat/framebeat/FrameTimeline", "missedVsyncs", "()J"⟩ : MethodName) prog_19_method_8_code 1 (some .long) :: ws) ({ frames := 0, cells := 0, slots := 0, locals := 0 } : Room)) (fun a U => a = #[(.ref a1)] ∧ Z.Warmed39 U.vm ∧ U.heap = h0) (fun _ _ _ _ _ => True) (fun _ U o U' => ∃ v L, o = .returned v ∧ QP Z (.long r) h0 v U'.heap L ∧ FrameEnd U o U' L ({ frames := 0, cells := 0, slots := 0, locals := 0 } : Room).cells ({ frames := 0, cells := 0, slots := 0, locals := 0 } : Room).slots) := by
  refine MetFree.of_bodySF (plainFor_of_name pn_1) hisR ?_
  intro p e s m args below meth c s₁ Bd hml0 hP hK
  obtain ⟨rfl, hZ, hh⟩ := hP
  have CX0 := CX
  obtain ⟨hw, S_INPUT, E_INPUT, S_ANIMATION, E_ANIMATION, S_INSETS_ANIMATION, E_INSETS_ANIMATION, S_TRAVERSAL, E_TRAVERSAL, S_COMMIT, E_COMMIT, S_VAL, E_VAL, V_VAL, -⟩ := CX0
  have hx := Bd.exec
  have hby := Bd.bytes
  have hml : c.maxLocals = 1 := hml0
  have hown : s.vm.findClass "com/example/framebeat/framebeat/FrameTimeline" = some m.cls := findClass_of_methodNamed Bd.named
  have hnm := (name_of_methodNamed Bd.named Bd.method).1
  have hlk : meth.locks = false := BodyLoose.notSynchronized Bd
  have X0 : Stand p l e ({ frames := 0, cells := 0, slots := 0, locals := 0 } : Room) s m #[(.ref a1)] below meth c s₁ [] 0 0 := Stand.of_body Bd
  have e0 : s₁.heap = h0 := by rw [← hh, Bd.state]; rfl
  have N := Fr.nil Z.heap.size
  show own_Done p.tables e below (own_R (QP Z (.long r) h0) s 0 0) s₁ (entryFrame m #[(.ref a1)] 1)
  refine own_st (T' := s₁) (F' := (mkF m 0 #[.val (.ref a1)] [])) (fun t k => castTop (by first | (simp [entryFrame, mkF, argsToLocals, Value.category]; done) | rfl) k) ?_
  refine own_st (T' := s₁) (F' := (mkF m 1 #[.val (.ref a1)] [(.ref a1)])) (fun t k => XS.aloadN X0.here hx rfl (hb hby d10_0) rfl rfl k) ?_
  obtain ⟨T1, X1, e1, st1⟩ := getF X0 hx hZ hown (host := "") (Or.inl (hw _ (List.mem_of_getElem? (i := 54) rfl))) Via.refl e0 F1 (g := (mkF m 1 #[.val (.ref a1)] [(.ref a1)])) rfl rfl (hb hby d10_1)
  refine own_st (T' := T1) (F' := (mkF m 4 #[.val (.ref a1)] [(.long r)])) st1 ?_
  exact own_retJ X1 hx Bd.returns (hb hby d10_4) hlk (by show QP Z (.long r) h0 _ T1.heap _; rw [e1]; exact ⟨rfl, N, rfl⟩) (by decide) (by decide)
theorem d11_0 : decode prog_19_method_7_code 0 = .ok (.aload_n 0, 1) := by decide +kernel
theorem d11_1 : decode prog_19_method_7_code 1 = .ok (.getfield 36, 3) := by decide +kernel
theorem d11_4 : decode prog_19_method_7_code 4 = .ok (.lreturn, 1) := by decide +kernel
set_option maxRecDepth 65536 in
set_option maxHeartbeats 40000000 in
theorem rm11 (l : Launch) (Z : State) (a0 : Array Value) {w_INPUT : Addr} {w_ANIMATION : Addr} {w_INSETS_ANIMATION : Addr} {w_TRAVERSAL : Addr} {w_COMMIT : Addr} {w_VAL : Addr} {k_VAL : ClassId} (CX : Ctx Z a0 w_INPUT w_ANIMATION w_INSETS_ANIMATION w_TRAVERSAL w_COMMIT w_VAL k_VAL) (ws : List Jvm.Cond) (a1 : Addr) (r : Int64) (h0 : Heap) (O : Ext Z.heap h0) (F1 : Fld Z h0 a1 "com/example/framebeat/framebeat/FrameTimeline" "endNanos" "J" (.long r)) :
    MetFree l (⟨"com/example/framebeat/framebeat/FrameTimeline", "endNanos", "()J"⟩ : MethodName) (head1 (Jvm.Cond.code (⟨"com/example/framebeat/framebeat/FrameTimeline", "endNanos", "()J"⟩ : MethodName) prog_19_method_7_code 1 (some .long) :: ws) ({ frames := 0, cells := 0, slots := 0, locals := 0 } : Room)) (fun a U => a = #[(.ref a1)] ∧ Z.Warmed39 U.vm ∧ U.heap = h0) (fun _ _ _ _ _ => True) (fun _ U o U' => ∃ v L, o = .returned v ∧ QP Z (.long r) h0 v U'.heap L ∧ FrameEnd U o U' L ({ frames := 0, cells := 0, slots := 0, locals := 0 } : Room).cells ({ frames := 0, cells := 0, slots := 0, locals := 0 } : Room).slots) := by
  refine MetFree.of_bodySF (plainFor_of_name pn_1) hisR ?_
  intro p e s m args below meth c s₁ Bd hml0 hP hK
  obtain ⟨rfl, hZ, hh⟩ := hP
  have CX0 := CX
  obtain ⟨hw, S_INPUT, E_INPUT, S_ANIMATION, E_ANIMATION, S_INSETS_ANIMATION, E_INSETS_ANIMATION, S_TRAVERSAL, E_TRAVERSAL, S_COMMIT, E_COMMIT, S_VAL, E_VAL, V_VAL, -⟩ := CX0
  have hx := Bd.exec
  have hby := Bd.bytes
  have hml : c.maxLocals = 1 := hml0
  have hown : s.vm.findClass "com/example/framebeat/framebeat/FrameTimeline" = some m.cls := findClass_of_methodNamed Bd.named
  have hnm := (name_of_methodNamed Bd.named Bd.method).1
  have hlk : meth.locks = false := BodyLoose.notSynchronized Bd
  have X0 : Stand p l e ({ frames := 0, cells := 0, slots := 0, locals := 0 } : Room) s m #[(.ref a1)] below meth c s₁ [] 0 0 := Stand.of_body Bd
  have e0 : s₁.heap = h0 := by rw [← hh, Bd.state]; rfl
  have N := Fr.nil Z.heap.size
  show own_Done p.tables e below (own_R (QP Z (.long r) h0) s 0 0) s₁ (entryFrame m #[(.ref a1)] 1)
  refine own_st (T' := s₁) (F' := (mkF m 0 #[.val (.ref a1)] [])) (fun t k => castTop (by first | (simp [entryFrame, mkF, argsToLocals, Value.category]; done) | rfl) k) ?_
  refine own_st (T' := s₁) (F' := (mkF m 1 #[.val (.ref a1)] [(.ref a1)])) (fun t k => XS.aloadN X0.here hx rfl (hb hby d11_0) rfl rfl k) ?_
  obtain ⟨T1, X1, e1, st1⟩ := getF X0 hx hZ hown (host := "") (Or.inl (hw _ (List.mem_of_getElem? (i := 38) rfl))) Via.refl e0 F1 (g := (mkF m 1 #[.val (.ref a1)] [(.ref a1)])) rfl rfl (hb hby d11_1)
  refine own_st (T' := T1) (F' := (mkF m 4 #[.val (.ref a1)] [(.long r)])) st1 ?_
  exact own_retJ X1 hx Bd.returns (hb hby d11_4) hlk (by show QP Z (.long r) h0 _ T1.heap _; rw [e1]; exact ⟨rfl, N, rfl⟩) (by decide) (by decide)
theorem pn_2 : plainName "com/example/framebeat/framebeat/FrameTimelineBeginPinLaw" = true := by first | (simp [plainName, overriddenIn]; done) | decide +kernel
theorem pd_1 : parseMethodDescriptor "()V" = some ⟨[], none⟩ := by decide +kernel
theorem pd_2 : parseMethodDescriptor "(J)V" = some ⟨[.long], none⟩ := by decide +kernel
theorem pd_3 : parseMethodDescriptor "(JJJJJ)V" = some ⟨[.long, .long, .long, .long, .long], none⟩ := by decide +kernel
theorem pd_4 : parseMethodDescriptor "()J" = some ⟨[], some .long⟩ := by decide +kernel
set_option maxRecDepth 65536 in
set_option maxHeartbeats 40000000 in
theorem rm0 (l : Launch) (Z : State) (a0 : Array Value) {w_INPUT : Addr} {w_ANIMATION : Addr} {w_INSETS_ANIMATION : Addr} {w_TRAVERSAL : Addr} {w_COMMIT : Addr} {w_VAL : Addr} {k_VAL : ClassId} (CX : Ctx Z a0 w_INPUT w_ANIMATION w_INSETS_ANIMATION w_TRAVERSAL w_COMMIT w_VAL k_VAL) (ws : List Jvm.Cond) (x0 : Int64) (x1 : Int64) (x2 : Int64) (x3 : Int64) (x4 : Int64) (x5 : Int64) (h0 : Heap) (O : Ext Z.heap h0)  :
    MetFree l x (head1 (Jvm.Cond.code x code maxLocals ret :: ws) room_1) (fun a U => a = #[(.long x0), (.long x1), (.long x2), (.long x3), (.long x4), (.long x5)] ∧ Z.Warmed39 U.vm ∧ U.heap = h0) (fun _ _ _ _ _ => True) (fun _ U o U' => ∃ v L, o = .returned v ∧ Q0 Z v U'.heap L ∧ FrameEnd U o U' L room_1.cells room_1.slots) := by
  refine MetFree.of_bodySF (plainFor_of_name pn_2) hisR ?_
  intro p e s m args below meth c s₁ Bd hml0 hP hK
  obtain ⟨rfl, hZ, hh⟩ := hP
  have CX0 := CX
  obtain ⟨hw, S_INPUT, E_INPUT, S_ANIMATION, E_ANIMATION, S_INSETS_ANIMATION, E_INSETS_ANIMATION, S_TRAVERSAL, E_TRAVERSAL, S_COMMIT, E_COMMIT, S_VAL, E_VAL, V_VAL, -⟩ := CX0
  have hx := Bd.exec
  have hby := Bd.bytes
  have hml : c.maxLocals = 14 := hml0
  have hown : s.vm.findClass "com/example/framebeat/framebeat/FrameTimelineBeginPinLaw" = some m.cls := findClass_of_methodNamed Bd.named
  have hnm := (name_of_methodNamed Bd.named Bd.method).1
  have hlk : meth.locks = false := BodyLoose.notSynchronized Bd
  have X0 : Stand p l e room_1 s m #[(.long x0), (.long x1), (.long x2), (.long x3), (.long x4), (.long x5)] below meth c s₁ [] 0 0 := Stand.of_body Bd
  have e0 : s₁.heap = h0 := by rw [← hh, Bd.state]; rfl
  have N := Fr.nil Z.heap.size
  show own_Done p.tables e below (own_R (Q0 Z) s 16 128) s₁ (entryFrame m #[(.long x0), (.long x1), (.long x2), (.long x3), (.long x4), (.long x5)] maxLocals)
  refine own_st (T' := s₁) (F' := (mkF m 0 #[.val (.long x0), .second, .val (.long x1), .second, .val (.long x2), .second, .val (.long x3), .second, .val (.long x4), .second, .val (.long x5), .second, .unset, .unset] [])) (fun t k => castTop (by first | (simp [entryFrame, mkF, argsToLocals, Value.category, maxLocals]; done) | rfl) k) ?_
  obtain ⟨T1, h1, X1, e1, E1, A1, D1, U1, st1⟩ := newO X0 hx hZ hown (hw _ (List.mem_of_getElem? (i := 0) rfl)) (hw _ (List.mem_of_getElem? (i := 1) rfl)) (hw _ (List.mem_of_getElem? (i := 2) rfl)) e0 (g := (mkF m 0 #[.val (.long x0), .second, .val (.long x1), .second, .val (.long x2), .second, .val (.long x3), .second, .val (.long x4), .second, .val (.long x5), .second, .unset, .unset] [])) rfl (hb hby at_0) (by decide) (by decide)
  obtain ⟨b1, g1⟩ : ∃ z, z = h0.size := ⟨_, rfl⟩
  rw [← g1] at A1 D1 U1 st1
  have g_b1 : Z.heap.size ≤ b1 := Nat.le_trans O.1 (Nat.le_of_eq g1.symm)
  have O := own_ext_trans O E1
  have E_b1 := A1
  have F_phaseStartNanos_b1 : Fld Z h1 b1 "com/example/framebeat/framebeat/FrameTimeline" "phaseStartNanos" "[J" .null := D1 (Or.inr (hw _ (List.mem_of_getElem? (i := 32) rfl))) (ty := (.array .long)) (by decide)
  have F_endNanos_b1 : Fld Z h1 b1 "com/example/framebeat/framebeat/FrameTimeline" "endNanos" "J" (.long (0 : Int64)) := D1 (Or.inl (hw _ (List.mem_of_getElem? (i := 39) rfl))) (ty := .long) (by decide)
  have F_periodNanos_b1 : Fld Z h1 b1 "com/example/framebeat/framebeat/FrameTimeline" "periodNanos" "J" (.long (0 : Int64)) := D1 (Or.inl (hw _ (List.mem_of_getElem? (i := 47) rfl))) (ty := .long) (by decide)
  have F_intendedVsyncNanos_b1 : Fld Z h1 b1 "com/example/framebeat/framebeat/FrameTimeline" "intendedVsyncNanos" "J" (.long (0 : Int64)) := D1 (Or.inl (hw _ (List.mem_of_getElem? (i := 49) rfl))) (ty := .long) (by decide)
  have F_frameTimeNanos_b1 : Fld Z h1 b1 "com/example/framebeat/framebeat/FrameTimeline" "frameTimeNanos" "J" (.long (0 : Int64)) := D1 (Or.inl (hw _ (List.mem_of_getElem? (i := 51) rfl))) (ty := .long) (by decide)
  have F_startNanos_b1 : Fld Z h1 b1 "com/example/framebeat/framebeat/FrameTimeline" "startNanos" "J" (.long (0 : Int64)) := D1 (Or.inl (hw _ (List.mem_of_getElem? (i := 53) rfl))) (ty := .long) (by decide)
  have F_missedVsyncs_b1 : Fld Z h1 b1 "com/example/framebeat/framebeat/FrameTimeline" "missedVsyncs" "J" (.long (0 : Int64)) := D1 (Or.inl (hw _ (List.mem_of_getElem? (i := 55) rfl))) (ty := .long) (by decide)
  refine own_st (T' := T1) (F' := (mkF m 3 #[.val (.long x0), .second, .val (.long x1), .second, .val (.long x2), .second, .val (.long x3), .second, .val (.long x4), .second, .val (.long x5), .second, .unset, .unset] [(.ref b1)])) st1 ?_
  refine own_st (T' := T1) (F' := (mkF m 4 #[.val (.long x0), .second, .val (.long x1), .second, .val (.long x2), .second, .val (.long x3), .second, .val (.long x4), .second, .val (.long x5), .second, .unset, .unset] [(.ref b1), (.ref b1)])) (fun t k => XS.dup X1.here hx rfl (hb hby at_3) rfl rfl k) ?_
  obtain ⟨v2, _, ⟨T2, L2, k2, n2⟩, -, X2, ⟨Lc2, hQ2, l2, y2, z2⟩, st2⟩ := X1.specialBack hx (y := (⟨"com/example/framebeat/framebeat/FrameTimeline", "<init>", "()V"⟩ : MethodName)) rfl hown (mvT hZ (hw _ (List.mem_of_getElem? (i := 3) rfl))) (mvT hZ (hw _ (List.mem_of_getElem? (i := 4) rfl))) (mvT hZ (hw _ (List.mem_of_getElem? (i := 5) rfl))) (by decide) (backOf (W := 1) (rm1 l Z a0 CX [] b1 .null rfl (0 : Int64) (0 : Int64) (0 : Int64) (0 : Int64) (0 : Int64) (0 : Int64) h1 O E_b1 g_b1 F_phaseStartNanos_b1 F_endNanos_b1 F_periodNanos_b1 F_intendedVsyncNanos_b1 F_frameTimeNanos_b1 F_startNanos_b1 F_missedVsyncs_b1) hZ (hw _ (List.mem_of_getElem? (i := 5) rfl)) (hw _ (List.mem_of_getElem? (i := 2) rfl)) (by decide) (by decide)) (g := (mkF m 4 #[.val (.long x0), .second, .val (.long x1), .second, .val (.long x2), .second, .val (.long x3), .second, .val (.long x4), .second, .val (.long x5), .second, .unset, .unset] [(.ref b1), (.ref b1)])) rfl (by rw [hml]; rfl) (Steps.refl _) (a := b1) (argsL := []) (rest := [(.ref b1)]) (lenOf pd_1 rfl) rfl (by show 2 * 0 + _ ≤ _; exact Nat.le_of_eq rfl) (hb hby at_4) (fun _ _ => ⟨rfl, e1, (by decide : 1 + 2 ≤ _), (by decide : 7 + 10 ≤ _)⟩)
  dsimp only [Pt.U, Pt.locs, Pt.cells, Pt.slots] at X2 l2 y2 z2 st2 hQ2
  subst l2 y2 z2
  obtain ⟨rfl, N2q, K2, F_endNanos_b1, F_periodNanos_b1, F_intendedVsyncNanos_b1, F_frameTimeNanos_b1, F_startNanos_b1, F_missedVsyncs_b1⟩ := hQ2
  have N := Fr.app N N2q
  have E_b1 := E_b1.keep K2
  have O := own_O_keep O K2 (allS g_b1 all0)
  refine own_tr (T' := T2) (F' := (mkF m 7 #[.val (.long x0), .second, .val (.long x1), .second, .val (.long x2), .second, .val (.long x3), .second, .val (.long x4), .second, .val (.long x5), .second, .unset, .unset] [(.ref b1)])) st2 ?_
  refine own_st (T' := T2) (F' := (mkF m 9 #[.val (.long x0), .second, .val (.long x1), .second, .val (.long x2), .second, .val (.long x3), .second, .val (.long x4), .second, .val (.long x5), .second, .val (.ref b1), .unset] [])) (fun t k => XS.astore X2.here hx rfl (hb hby at_7) rfl rfl (l' := #[.val (.long x0), .second, .val (.long x1), .second, .val (.long x2), .second, .val (.long x3), .second, .val (.long x4), .second, .val (.long x5), .second, .val (.ref b1), .unset]) rfl k) ?_
  refine own_st (T' := T2) (F' := (mkF m 11 #[.val (.long x0), .second, .val (.long x1), .second, .val (.long x2), .second, .val (.long x3), .second, .val (.long x4), .second, .val (.long x5), .second, .val (.ref b1), .unset] [(.ref b1)])) (fun t k => XS.aload X2.here hx rfl (hb hby at_9) rfl rfl k) ?_
  refine own_st (T' := T2) (F' := (mkF m 13 #[.val (.long x0), .second, .val (.long x1), .second, .val (.long x2), .second, .val (.long x3), .second, .val (.long x4), .second, .val (.long x5), .second, .val (.ref b1), .unset] [(.long x5), (.ref b1)])) (fun t k => XS.lload X2.here hx rfl (hb hby at_11) rfl k) ?_
  obtain ⟨cq3, kq3, q3a, q3b, q3c⟩ := isOf hZ rfl E_b1
  obtain ⟨v3, _, ⟨T3, L3, k3, n3⟩, -, X3, ⟨Lc3, hQ3, l3, y3, z3⟩, st3⟩ := X2.virtualBack hx (y := (⟨"com/example/framebeat/framebeat/FrameTimeline", "end", "(J)V"⟩ : MethodName)) (z := (⟨"com/example/framebeat/framebeat/FrameTimeline", "end", "(J)V"⟩ : MethodName)) hown (mvT hZ (hw _ (List.mem_of_getElem? (i := 33) rfl))) (mvT hZ (hw _ (List.mem_of_getElem? (i := 34) rfl))) (notFace_of_selects (args := #[]) (mvT hZ (hw _ (List.mem_of_getElem? (i := 36) rfl)))) (mvT hZ (hw _ (List.mem_of_getElem? (i := 36) rfl))) (mvT hZ (hw _ (List.mem_of_getElem? (i := 35) rfl))) (by decide) (backOf (W := 0) (rm4 l Z a0 CX [] b1 x5 (0 : Int64) (0 : Int64) (0 : Int64) (0 : Int64) (0 : Int64) (0 : Int64) T2.heap O E_b1 g_b1 F_endNanos_b1 F_periodNanos_b1 F_intendedVsyncNanos_b1 F_frameTimeNanos_b1 F_startNanos_b1 F_missedVsyncs_b1) hZ (hw _ (List.mem_of_getElem? (i := 37) rfl)) (hw _ (List.mem_of_getElem? (i := 2) rfl)) (by decide) (by decide)) q3a q3c (g := (mkF m 13 #[.val (.long x0), .second, .val (.long x1), .second, .val (.long x2), .second, .val (.long x3), .second, .val (.long x4), .second, .val (.long x5), .second, .val (.ref b1), .unset] [(.long x5), (.ref b1)])) rfl (by rw [hml]; rfl) (Steps.refl _) (argsL := [(.long x5)]) (rest := []) (lenOf pd_2 rfl) rfl (by show 2 * 0 + _ ≤ _; exact Nat.le_of_eq rfl) (hb hby at_13) (fun _ _ => ⟨rfl, rfl, (by decide : 3 + 0 ≤ _), (by decide : 17 + 0 ≤ _)⟩)
  dsimp only [Pt.U, Pt.locs, Pt.cells, Pt.slots] at X3 l3 y3 z3 st3 hQ3
  subst l3 y3 z3
  obtain ⟨rfl, N3q, K3, F_endNanos_b1, F_periodNanos_b1, F_intendedVsyncNanos_b1, F_frameTimeNanos_b1, F_startNanos_b1, F_missedVsyncs_b1⟩ := hQ3
  have N := Fr.app N N3q
  have E_b1 := E_b1.keep K3
  have O := own_O_keep O K3 (allS g_b1 all0)
  refine own_tr (T' := T3) (F' := (mkF m 16 #[.val (.long x0), .second, .val (.long x1), .second, .val (.long x2), .second, .val (.long x3), .second, .val (.long x4), .second, .val (.long x5), .second, .val (.ref b1), .unset] [])) st3 ?_
  refine own_st (T' := T3) (F' := (mkF m 18 #[.val (.long x0), .second, .val (.long x1), .second, .val (.long x2), .second, .val (.long x3), .second, .val (.long x4), .second, .val (.long x5), .second, .val (.ref b1), .unset] [(.ref b1)])) (fun t k => XS.aload X3.here hx rfl (hb hby at_16) rfl rfl k) ?_
  refine own_st (T' := T3) (F' := (mkF m 19 #[.val (.long x0), .second, .val (.long x1), .second, .val (.long x2), .second, .val (.long x3), .second, .val (.long x4), .second, .val (.long x5), .second, .val (.ref b1), .unset] [(.long x0), (.ref b1)])) (fun t k => XS.lloadN X3.here hx rfl (hb hby at_18) rfl k) ?_
  refine own_st (T' := T3) (F' := (mkF m 22 #[.val (.long x0), .second, .val (.long x1), .second, .val (.long x2), .second, .val (.long x3), .second, .val (.long x4), .second, .val (.long x5), .second, .val (.ref b1), .unset] [(.long (-1 : Int64)), (.long x0), (.ref b1)])) (fun t k => X3.ldc2Long hx hown (mvT hZ (hw _ (List.mem_of_getElem? (i := 40) rfl))) (g := (mkF m 19 #[.val (.long x0), .second, .val (.long x1), .second, .val (.long x2), .second, .val (.long x3), .second, .val (.long x4), .second, .val (.long x5), .second, .val (.ref b1), .unset] [(.long x0), (.ref b1)])) rfl (hb hby at_19) _ k) ?_
  refine own_st (T' := T3) (F' := (mkF m 23 #[.val (.long x0), .second, .val (.long x1), .second, .val (.long x2), .second, .val (.long x3), .second, .val (.long x4), .second, .val (.long x5), .second, .val (.ref b1), .unset] [(.long (x0 ^^^ (-1 : Int64))), (.ref b1)])) (fun t k => XS.lxor X3.here hx rfl (hb hby at_22) rfl k) ?_
  refine own_st (T' := T3) (F' := (mkF m 24 #[.val (.long x0), .second, .val (.long x1), .second, .val (.long x2), .second, .val (.long x3), .second, .val (.long x4), .second, .val (.long x5), .second, .val (.ref b1), .unset] [(.long x1), (.long (x0 ^^^ (-1 : Int64))), (.ref b1)])) (fun t k => XS.lloadN X3.here hx rfl (hb hby at_23) rfl k) ?_
  refine own_st (T' := T3) (F' := (mkF m 27 #[.val (.long x0), .second, .val (.long x1), .second, .val (.long x2), .second, .val (.long x3), .second, .val (.long x4), .second, .val (.long x5), .second, .val (.ref b1), .unset] [(.long (-1 : Int64)), (.long x1), (.long (x0 ^^^ (-1 : Int64))), (.ref b1)])) (fun t k => X3.ldc2Long hx hown (mvT hZ (hw _ (List.mem_of_getElem? (i := 40) rfl))) (g := (mkF m 24 #[.val (.long x0), .second, .val (.long x1), .second, .val (.long x2), .second, .val (.long x3), .second, .val (.long x4), .second, .val (.long x5), .second, .val (.ref b1), .unset] [(.long x1), (.long (x0 ^^^ (-1 : Int64))), (.ref b1)])) rfl (hb hby at_24) _ k) ?_
  refine own_st (T' := T3) (F' := (mkF m 28 #[.val (.long x0), .second, .val (.long x1), .second, .val (.long x2), .second, .val (.long x3), .second, .val (.long x4), .second, .val (.long x5), .second, .val (.ref b1), .unset] [(.long (x1 ^^^ (-1 : Int64))), (.long (x0 ^^^ (-1 : Int64))), (.ref b1)])) (fun t k => XS.lxor X3.here hx rfl (hb hby at_27) rfl k) ?_
  refine own_st (T' := T3) (F' := (mkF m 30 #[.val (.long x0), .second, .val (.long x1), .second, .val (.long x2), .second, .val (.long x3), .second, .val (.long x4), .second, .val (.long x5), .second, .val (.ref b1), .unset] [(.long x2), (.long (x1 ^^^ (-1 : Int64))), (.long (x0 ^^^ (-1 : Int64))), (.ref b1)])) (fun t k => XS.lload X3.here hx rfl (hb hby at_28) rfl k) ?_
  refine own_st (T' := T3) (F' := (mkF m 33 #[.val (.long x0), .second, .val (.long x1), .second, .val (.long x2), .second, .val (.long x3), .second, .val (.long x4), .second, .val (.long x5), .second, .val (.ref b1), .unset] [(.long (-1 : Int64)), (.long x2), (.long (x1 ^^^ (-1 : Int64))), (.long (x0 ^^^ (-1 : Int64))), (.ref b1)])) (fun t k => X3.ldc2Long hx hown (mvT hZ (hw _ (List.mem_of_getElem? (i := 40) rfl))) (g := (mkF m 30 #[.val (.long x0), .second, .val (.long x1), .second, .val (.long x2), .second, .val (.long x3), .second, .val (.long x4), .second, .val (.long x5), .second, .val (.ref b1), .unset] [(.long x2), (.long (x1 ^^^ (-1 : Int64))), (.long (x0 ^^^ (-1 : Int64))), (.ref b1)])) rfl (hb hby at_30) _ k) ?_
  refine own_st (T' := T3) (F' := (mkF m 34 #[.val (.long x0), .second, .val (.long x1), .second, .val (.long x2), .second, .val (.long x3), .second, .val (.long x4), .second, .val (.long x5), .second, .val (.ref b1), .unset] [(.long (x2 ^^^ (-1 : Int64))), (.long (x1 ^^^ (-1 : Int64))), (.long (x0 ^^^ (-1 : Int64))), (.ref b1)])) (fun t k => XS.lxor X3.here hx rfl (hb hby at_33) rfl k) ?_
  refine own_st (T' := T3) (F' := (mkF m 36 #[.val (.long x0), .second, .val (.long x1), .second, .val (.long x2), .second, .val (.long x3), .second, .val (.long x4), .second, .val (.long x5), .second, .val (.ref b1), .unset] [(.long x3), (.long (x2 ^^^ (-1 : Int64))), (.long (x1 ^^^ (-1 : Int64))), (.long (x0 ^^^ (-1 : Int64))), (.ref b1)])) (fun t k => XS.lload X3.here hx rfl (hb hby at_34) rfl k) ?_
  refine own_st (T' := T3) (F' := (mkF m 39 #[.val (.long x0), .second, .val (.long x1), .second, .val (.long x2), .second, .val (.long x3), .second, .val (.long x4), .second, .val (.long x5), .second, .val (.ref b1), .unset] [(.long (-1 : Int64)), (.long x3), (.long (x2 ^^^ (-1 : Int64))), (.long (x1 ^^^ (-1 : Int64))), (.long (x0 ^^^ (-1 : Int64))), (.ref b1)])) (fun t k => X3.ldc2Long hx hown (mvT hZ (hw _ (List.mem_of_getElem? (i := 40) rfl))) (g := (mkF m 36 #[.val (.long x0), .second, .val (.long x1), .second, .val (.long x2), .second, .val (.long x3), .second, .val (.long x4), .second, .val (.long x5), .second, .val (.ref b1), .unset] [(.long x3), (.long (x2 ^^^ (-1 : Int64))), (.long (x1 ^^^ (-1 : Int64))), (.long (x0 ^^^ (-1 : Int64))), (.ref b1)])) rfl (hb hby at_36) _ k) ?_
  refine own_st (T' := T3) (F' := (mkF m 40 #[.val (.long x0), .second, .val (.long x1), .second, .val (.long x2), .second, .val (.long x3), .second, .val (.long x4), .second, .val (.long x5), .second, .val (.ref b1), .unset] [(.long (x3 ^^^ (-1 : Int64))), (.long (x2 ^^^ (-1 : Int64))), (.long (x1 ^^^ (-1 : Int64))), (.long (x0 ^^^ (-1 : Int64))), (.ref b1)])) (fun t k => XS.lxor X3.here hx rfl (hb hby at_39) rfl k) ?_
  refine own_st (T' := T3) (F' := (mkF m 42 #[.val (.long x0), .second, .val (.long x1), .second, .val (.long x2), .second, .val (.long x3), .second, .val (.long x4), .second, .val (.long x5), .second, .val (.ref b1), .unset] [(.long x4), (.long (x3 ^^^ (-1 : Int64))), (.long (x2 ^^^ (-1 : Int64))), (.long (x1 ^^^ (-1 : Int64))), (.long (x0 ^^^ (-1 : Int64))), (.ref b1)])) (fun t k => XS.lload X3.here hx rfl (hb hby at_40) rfl k) ?_
  refine own_st (T' := T3) (F' := (mkF m 45 #[.val (.long x0), .second, .val (.long x1), .second, .val (.long x2), .second, .val (.long x3), .second, .val (.long x4), .second, .val (.long x5), .second, .val (.ref b1), .unset] [(.long (-1 : Int64)), (.long x4), (.long (x3 ^^^ (-1 : Int64))), (.long (x2 ^^^ (-1 : Int64))), (.long (x1 ^^^ (-1 : Int64))), (.long (x0 ^^^ (-1 : Int64))), (.ref b1)])) (fun t k => X3.ldc2Long hx hown (mvT hZ (hw _ (List.mem_of_getElem? (i := 40) rfl))) (g := (mkF m 42 #[.val (.long x0), .second, .val (.long x1), .second, .val (.long x2), .second, .val (.long x3), .second, .val (.long x4), .second, .val (.long x5), .second, .val (.ref b1), .unset] [(.long x4), (.long (x3 ^^^ (-1 : Int64))), (.long (x2 ^^^ (-1 : Int64))), (.long (x1 ^^^ (-1 : Int64))), (.long (x0 ^^^ (-1 : Int64))), (.ref b1)])) rfl (hb hby at_42) _ k) ?_
  refine own_st (T' := T3) (F' := (mkF m 46 #[.val (.long x0), .second, .val (.long x1), .second, .val (.long x2), .second, .val (.long x3), .second, .val (.long x4), .second, .val (.long x5), .second, .val (.ref b1), .unset] [(.long (x4 ^^^ (-1 : Int64))), (.long (x3 ^^^ (-1 : Int64))), (.long (x2 ^^^ (-1 : Int64))), (.long (x1 ^^^ (-1 : Int64))), (.long (x0 ^^^ (-1 : Int64))), (.ref b1)])) (fun t k => XS.lxor X3.here hx rfl (hb hby at_45) rfl k) ?_
  obtain ⟨cq4, kq4, q4a, q4b, q4c⟩ := isOf hZ rfl E_b1
  obtain ⟨v4, _, ⟨T4, L4, k4, n4⟩, -, X4, ⟨Lc4, hQ4, l4, y4, z4⟩, st4⟩ := X3.virtualBack hx (y := (⟨"com/example/framebeat/framebeat/FrameTimeline", "begin", "(JJJJJ)V"⟩ : MethodName)) (z := (⟨"com/example/framebeat/framebeat/FrameTimeline", "begin", "(JJJJJ)V"⟩ : MethodName)) hown (mvT hZ (hw _ (List.mem_of_getElem? (i := 41) rfl))) (mvT hZ (hw _ (List.mem_of_getElem? (i := 42) rfl))) (notFace_of_selects (args := #[]) (mvT hZ (hw _ (List.mem_of_getElem? (i := 44) rfl)))) (mvT hZ (hw _ (List.mem_of_getElem? (i := 44) rfl))) (mvT hZ (hw _ (List.mem_of_getElem? (i := 43) rfl))) (by decide) (backOf (W := 0) (rm5 l Z a0 CX [] b1 (x0 ^^^ (-1 : Int64)) (x1 ^^^ (-1 : Int64)) (x2 ^^^ (-1 : Int64)) (x3 ^^^ (-1 : Int64)) (x4 ^^^ (-1 : Int64)) x5 (0 : Int64) (0 : Int64) (0 : Int64) (0 : Int64) (0 : Int64) T3.heap O E_b1 g_b1 F_endNanos_b1 F_periodNanos_b1 F_intendedVsyncNanos_b1 F_frameTimeNanos_b1 F_startNanos_b1 F_missedVsyncs_b1) hZ (hw _ (List.mem_of_getElem? (i := 45) rfl)) (hw _ (List.mem_of_getElem? (i := 2) rfl)) (by decide) (by decide)) q4a q4c (g := (mkF m 46 #[.val (.long x0), .second, .val (.long x1), .second, .val (.long x2), .second, .val (.long x3), .second, .val (.long x4), .second, .val (.long x5), .second, .val (.ref b1), .unset] [(.long (x4 ^^^ (-1 : Int64))), (.long (x3 ^^^ (-1 : Int64))), (.long (x2 ^^^ (-1 : Int64))), (.long (x1 ^^^ (-1 : Int64))), (.long (x0 ^^^ (-1 : Int64))), (.ref b1)])) rfl (by rw [hml]; rfl) (Steps.refl _) (argsL := [(.long (x0 ^^^ (-1 : Int64))), (.long (x1 ^^^ (-1 : Int64))), (.long (x2 ^^^ (-1 : Int64))), (.long (x3 ^^^ (-1 : Int64))), (.long (x4 ^^^ (-1 : Int64)))]) (rest := []) (lenOf pd_3 rfl) rfl (by show 2 * 0 + _ ≤ _; exact Nat.le_of_eq rfl) (hb hby at_46) (fun _ _ => ⟨rfl, rfl, (by decide : 3 + 0 ≤ _), (by decide : 17 + 0 ≤ _)⟩)
  dsimp only [Pt.U, Pt.locs, Pt.cells, Pt.slots] at X4 l4 y4 z4 st4 hQ4
  subst l4 y4 z4
  obtain ⟨rfl, N4q, K4, F_endNanos_b1, F_periodNanos_b1, F_intendedVsyncNanos_b1, F_frameTimeNanos_b1, F_startNanos_b1, F_missedVsyncs_b1⟩ := hQ4
  have N := Fr.app N N4q
  have E_b1 := E_b1.keep K4
  have O := own_O_keep O K4 (allS g_b1 all0)
  refine own_tr (T' := T4) (F' := (mkF m 49 #[.val (.long x0), .second, .val (.long x1), .second, .val (.long x2), .second, .val (.long x3), .second, .val (.long x4), .second, .val (.long x5), .second, .val (.ref b1), .unset] [])) st4 ?_
  refine own_st (T' := T4) (F' := (mkF m 51 #[.val (.long x0), .second, .val (.long x1), .second, .val (.long x2), .second, .val (.long x3), .second, .val (.long x4), .second, .val (.long x5), .second, .val (.ref b1), .unset] [(.ref b1)])) (fun t k => XS.aload X4.here hx rfl (hb hby at_49) rfl rfl k) ?_
  refine own_st (T' := T4) (F' := (mkF m 52 #[.val (.long x0), .second, .val (.long x1), .second, .val (.long x2), .second, .val (.long x3), .second, .val (.long x4), .second, .val (.long x5), .second, .val (.ref b1), .unset] [(.long x0), (.ref b1)])) (fun t k => XS.lloadN X4.here hx rfl (hb hby at_51) rfl k) ?_
  refine own_st (T' := T4) (F' := (mkF m 53 #[.val (.long x0), .second, .val (.long x1), .second, .val (.long x2), .second, .val (.long x3), .second, .val (.long x4), .second, .val (.long x5), .second, .val (.ref b1), .unset] [(.long x1), (.long x0), (.ref b1)])) (fun t k => XS.lloadN X4.here hx rfl (hb hby at_52) rfl k) ?_
  refine own_st (T' := T4) (F' := (mkF m 55 #[.val (.long x0), .second, .val (.long x1), .second, .val (.long x2), .second, .val (.long x3), .second, .val (.long x4), .second, .val (.long x5), .second, .val (.ref b1), .unset] [(.long x2), (.long x1), (.long x0), (.ref b1)])) (fun t k => XS.lload X4.here hx rfl (hb hby at_53) rfl k) ?_
  refine own_st (T' := T4) (F' := (mkF m 57 #[.val (.long x0), .second, .val (.long x1), .second, .val (.long x2), .second, .val (.long x3), .second, .val (.long x4), .second, .val (.long x5), .second, .val (.ref b1), .unset] [(.long x3), (.long x2), (.long x1), (.long x0), (.ref b1)])) (fun t k => XS.lload X4.here hx rfl (hb hby at_55) rfl k) ?_
  refine own_st (T' := T4) (F' := (mkF m 59 #[.val (.long x0), .second, .val (.long x1), .second, .val (.long x2), .second, .val (.long x3), .second, .val (.long x4), .second, .val (.long x5), .second, .val (.ref b1), .unset] [(.long x4), (.long x3), (.long x2), (.long x1), (.long x0), (.ref b1)])) (fun t k => XS.lload X4.here hx rfl (hb hby at_57) rfl k) ?_
  obtain ⟨cq5, kq5, q5a, q5b, q5c⟩ := isOf hZ rfl E_b1
  obtain ⟨v5, _, ⟨T5, L5, k5, n5⟩, -, X5, ⟨Lc5, hQ5, l5, y5, z5⟩, st5⟩ := X4.virtualBack hx (y := (⟨"com/example/framebeat/framebeat/FrameTimeline", "begin", "(JJJJJ)V"⟩ : MethodName)) (z := (⟨"com/example/framebeat/framebeat/FrameTimeline", "begin", "(JJJJJ)V"⟩ : MethodName)) hown (mvT hZ (hw _ (List.mem_of_getElem? (i := 41) rfl))) (mvT hZ (hw _ (List.mem_of_getElem? (i := 42) rfl))) (notFace_of_selects (args := #[]) (mvT hZ (hw _ (List.mem_of_getElem? (i := 44) rfl)))) (mvT hZ (hw _ (List.mem_of_getElem? (i := 44) rfl))) (mvT hZ (hw _ (List.mem_of_getElem? (i := 43) rfl))) (by decide) (backOf (W := 0) (rm5 l Z a0 CX [] b1 x0 x1 x2 x3 x4 x5 (x0 ^^^ (-1 : Int64)) (x1 ^^^ (-1 : Int64)) (x2 ^^^ (-1 : Int64)) (x3 ^^^ (-1 : Int64)) (x4 ^^^ (-1 : Int64)) T4.heap O E_b1 g_b1 F_endNanos_b1 F_periodNanos_b1 F_intendedVsyncNanos_b1 F_frameTimeNanos_b1 F_startNanos_b1 F_missedVsyncs_b1) hZ (hw _ (List.mem_of_getElem? (i := 45) rfl)) (hw _ (List.mem_of_getElem? (i := 2) rfl)) (by decide) (by decide)) q5a q5c (g := (mkF m 59 #[.val (.long x0), .second, .val (.long x1), .second, .val (.long x2), .second, .val (.long x3), .second, .val (.long x4), .second, .val (.long x5), .second, .val (.ref b1), .unset] [(.long x4), (.long x3), (.long x2), (.long x1), (.long x0), (.ref b1)])) rfl (by rw [hml]; rfl) (Steps.refl _) (argsL := [(.long x0), (.long x1), (.long x2), (.long x3), (.long x4)]) (rest := []) (lenOf pd_3 rfl) rfl (by show 2 * 0 + _ ≤ _; exact Nat.le_of_eq rfl) (hb hby at_59) (fun _ _ => ⟨rfl, rfl, (by decide : 3 + 0 ≤ _), (by decide : 17 + 0 ≤ _)⟩)
  dsimp only [Pt.U, Pt.locs, Pt.cells, Pt.slots] at X5 l5 y5 z5 st5 hQ5
  subst l5 y5 z5
  obtain ⟨rfl, N5q, K5, F_endNanos_b1, F_periodNanos_b1, F_intendedVsyncNanos_b1, F_frameTimeNanos_b1, F_startNanos_b1, F_missedVsyncs_b1⟩ := hQ5
  have N := Fr.app N N5q
  have E_b1 := E_b1.keep K5
  have O := own_O_keep O K5 (allS g_b1 all0)
  refine own_tr (T' := T5) (F' := (mkF m 62 #[.val (.long x0), .second, .val (.long x1), .second, .val (.long x2), .second, .val (.long x3), .second, .val (.long x4), .second, .val (.long x5), .second, .val (.ref b1), .unset] [])) st5 ?_
  refine own_st (T' := T5) (F' := (mkF m 64 #[.val (.long x0), .second, .val (.long x1), .second, .val (.long x2), .second, .val (.long x3), .second, .val (.long x4), .second, .val (.long x5), .second, .val (.ref b1), .unset] [(.ref b1)])) (fun t k => XS.aload X5.here hx rfl (hb hby at_62) rfl rfl k) ?_
  obtain ⟨cq6, kq6, q6a, q6b, q6c⟩ := isOf hZ rfl E_b1
  obtain ⟨v6, _, ⟨T6, L6, k6, n6⟩, -, X6, ⟨Lc6, hQ6, l6, y6, z6⟩, st6⟩ := X5.virtualBack hx (y := (⟨"com/example/framebeat/framebeat/FrameTimeline", "periodNanos", "()J"⟩ : MethodName)) (z := (⟨"com/example/framebeat/framebeat/FrameTimeline", "periodNanos", "()J"⟩ : MethodName)) hown (mvT hZ (hw _ (List.mem_of_getElem? (i := 56) rfl))) (mvT hZ (hw _ (List.mem_of_getElem? (i := 57) rfl))) (notFace_of_selects (args := #[]) (mvT hZ (hw _ (List.mem_of_getElem? (i := 59) rfl)))) (mvT hZ (hw _ (List.mem_of_getElem? (i := 59) rfl))) (mvT hZ (hw _ (List.mem_of_getElem? (i := 58) rfl))) (by decide) (backOf (W := 0) (rm6 l Z a0 CX [] b1 x0 T5.heap O F_periodNanos_b1) hZ (hw _ (List.mem_of_getElem? (i := 60) rfl)) (hw _ (List.mem_of_getElem? (i := 2) rfl)) (by decide) (by decide)) q6a q6c (g := (mkF m 64 #[.val (.long x0), .second, .val (.long x1), .second, .val (.long x2), .second, .val (.long x3), .second, .val (.long x4), .second, .val (.long x5), .second, .val (.ref b1), .unset] [(.ref b1)])) rfl (by rw [hml]; rfl) (Steps.refl _) (argsL := []) (rest := []) (lenOf pd_4 rfl) rfl (by show 2 * 0 + _ ≤ _; exact Nat.le_of_eq rfl) (hb hby at_64) (fun _ _ => ⟨rfl, rfl, (by decide : 3 + 0 ≤ _), (by decide : 17 + 0 ≤ _)⟩)
  dsimp only [Pt.U, Pt.locs, Pt.cells, Pt.slots] at X6 l6 y6 z6 st6 hQ6
  subst l6 y6 z6
  obtain ⟨rfl, N6q, e6⟩ := hQ6
  have N := Fr.app N N6q
  refine own_tr (T' := T6) (F' := (mkF m 67 #[.val (.long x0), .second, .val (.long x1), .second, .val (.long x2), .second, .val (.long x3), .second, .val (.long x4), .second, .val (.long x5), .second, .val (.ref b1), .unset] [(.long x0)])) st6 ?_
  refine own_st (T' := T6) (F' := (mkF m 68 #[.val (.long x0), .second, .val (.long x1), .second, .val (.long x2), .second, .val (.long x3), .second, .val (.long x4), .second, .val (.long x5), .second, .val (.ref b1), .unset] [(.long x0), (.long x0)])) (fun t k => XS.lloadN X6.here hx rfl (hb hby at_67) rfl k) ?_
  refine own_st (T' := T6) (F' := (mkF m 69 #[.val (.long x0), .second, .val (.long x1), .second, .val (.long x2), .second, .val (.long x3), .second, .val (.long x4), .second, .val (.long x5), .second, .val (.ref b1), .unset] [(.int (lcmpW x0 x0))])) (fun t k => XS.lcmp X6.here hx rfl (hb hby at_68) rfl k) ?_
  refine own_st (T' := T6) (F' := (mkF m 72 #[.val (.long x0), .second, .val (.long x1), .second, .val (.long x2), .second, .val (.long x3), .second, .val (.long x4), .second, .val (.long x5), .second, .val (.ref b1), .unset] [])) (fun t k => XS.ifNo X6.here hx rfl (hb hby at_69) rfl ((if0 _ _).trans (teq ((lw_eq _ _).mpr rfl)).2) k) ?_
  refine own_st (T' := T6) (F' := (mkF m 73 #[.val (.long x0), .second, .val (.long x1), .second, .val (.long x2), .second, .val (.long x3), .second, .val (.long x4), .second, .val (.long x5), .second, .val (.ref b1), .unset] [(.int (1 : Int32))])) (fun t k => XS.iconst X6.here hx rfl (hb hby at_72) k) ?_
  refine own_st (T' := T6) (F' := (mkF m 77 #[.val (.long x0), .second, .val (.long x1), .second, .val (.long x2), .second, .val (.long x3), .second, .val (.long x4), .second, .val (.long x5), .second, .val (.ref b1), .unset] [(.int (1 : Int32))])) (fun t k => XS.goto X6.here hx rfl (pc0 := 73) (pc' := 77) rfl (hb hby at_73) (by decide) (by decide) k) ?_
  refine own_st (T' := T6) (F' := (mkF m 79 #[.val (.long x0), .second, .val (.long x1), .second, .val (.long x2), .second, .val (.long x3), .second, .val (.long x4), .second, .val (.long x5), .second, .val (.ref b1), .val (.int (1 : Int32))] [])) (fun t k => XS.istore X6.here hx rfl (hb hby at_77) rfl (l' := #[.val (.long x0), .second, .val (.long x1), .second, .val (.long x2), .second, .val (.long x3), .second, .val (.long x4), .second, .val (.long x5), .second, .val (.ref b1), .val (.int (1 : Int32))]) rfl k) ?_
  refine own_st (T' := T6) (F' := (mkF m 81 #[.val (.long x0), .second, .val (.long x1), .second, .val (.long x2), .second, .val (.long x3), .second, .val (.long x4), .second, .val (.long x5), .second, .val (.ref b1), .val (.int (1 : Int32))] [(.int (1 : Int32))])) (fun t k => XS.iload X6.here hx rfl (hb hby at_79) rfl k) ?_
  refine own_st (T' := T6) (F' := (mkF m 84 #[.val (.long x0), .second, .val (.long x1), .second, .val (.long x2), .second, .val (.long x3), .second, .val (.long x4), .second, .val (.long x5), .second, .val (.ref b1), .val (.int (1 : Int32))] [])) (fun t k => XS.ifNo X6.here hx rfl (hb hby at_81) rfl ((if0 _ _).trans (feq (by decide : ¬ ((1 : Int32) = (0 : Int32)))).1) k) ?_
  refine own_st (T' := T6) (F' := (mkF m 86 #[.val (.long x0), .second, .val (.long x1), .second, .val (.long x2), .second, .val (.long x3), .second, .val (.long x4), .second, .val (.long x5), .second, .val (.ref b1), .val (.int (1 : Int32))] [(.ref b1)])) (fun t k => XS.aload X6.here hx rfl (hb hby at_84) rfl rfl k) ?_
  obtain ⟨cq7, kq7, q7a, q7b, q7c⟩ := isOf hZ e6 E_b1
  obtain ⟨v7, _, ⟨T7, L7, k7, n7⟩, -, X7, ⟨Lc7, hQ7, l7, y7, z7⟩, st7⟩ := X6.virtualBack hx (y := (⟨"com/example/framebeat/framebeat/FrameTimeline", "intendedVsyncNanos", "()J"⟩ : MethodName)) (z := (⟨"com/example/framebeat/framebeat/FrameTimeline", "intendedVsyncNanos", "()J"⟩ : MethodName)) hown (mvT hZ (hw _ (List.mem_of_getElem? (i := 61) rfl))) (mvT hZ (hw _ (List.mem_of_getElem? (i := 62) rfl))) (notFace_of_selects (args := #[]) (mvT hZ (hw _ (List.mem_of_getElem? (i := 64) rfl)))) (mvT hZ (hw _ (List.mem_of_getElem? (i := 64) rfl))) (mvT hZ (hw _ (List.mem_of_getElem? (i := 63) rfl))) (by decide) (backOf (W := 0) (rm7 l Z a0 CX [] b1 x1 T5.heap O F_intendedVsyncNanos_b1) hZ (hw _ (List.mem_of_getElem? (i := 65) rfl)) (hw _ (List.mem_of_getElem? (i := 2) rfl)) (by decide) (by decide)) q7a q7c (g := (mkF m 86 #[.val (.long x0), .second, .val (.long x1), .second, .val (.long x2), .second, .val (.long x3), .second, .val (.long x4), .second, .val (.long x5), .second, .val (.ref b1), .val (.int (1 : Int32))] [(.ref b1)])) rfl (by rw [hml]; rfl) (Steps.refl _) (argsL := []) (rest := []) (lenOf pd_4 rfl) rfl (by show 2 * 0 + _ ≤ _; exact Nat.le_of_eq rfl) (hb hby at_86) (fun _ _ => ⟨rfl, e6, (by decide : 3 + 0 ≤ _), (by decide : 17 + 0 ≤ _)⟩)
  dsimp only [Pt.U, Pt.locs, Pt.cells, Pt.slots] at X7 l7 y7 z7 st7 hQ7
  subst l7 y7 z7
  obtain ⟨rfl, N7q, e7⟩ := hQ7
  have N := Fr.app N N7q
  refine own_tr (T' := T7) (F' := (mkF m 89 #[.val (.long x0), .second, .val (.long x1), .second, .val (.long x2), .second, .val (.long x3), .second, .val (.long x4), .second, .val (.long x5), .second, .val (.ref b1), .val (.int (1 : Int32))] [(.long x1)])) st7 ?_
  refine own_st (T' := T7) (F' := (mkF m 90 #[.val (.long x0), .second, .val (.long x1), .second, .val (.long x2), .second, .val (.long x3), .second, .val (.long x4), .second, .val (.long x5), .second, .val (.ref b1), .val (.int (1 : Int32))] [(.long x1), (.long x1)])) (fun t k => XS.lloadN X7.here hx rfl (hb hby at_89) rfl k) ?_
  refine own_st (T' := T7) (F' := (mkF m 91 #[.val (.long x0), .second, .val (.long x1), .second, .val (.long x2), .second, .val (.long x3), .second, .val (.long x4), .second, .val (.long x5), .second, .val (.ref b1), .val (.int (1 : Int32))] [(.int (lcmpW x1 x1))])) (fun t k => XS.lcmp X7.here hx rfl (hb hby at_90) rfl k) ?_
  refine own_st (T' := T7) (F' := (mkF m 94 #[.val (.long x0), .second, .val (.long x1), .second, .val (.long x2), .second, .val (.long x3), .second, .val (.long x4), .second, .val (.long x5), .second, .val (.ref b1), .val (.int (1 : Int32))] [])) (fun t k => XS.ifNo X7.here hx rfl (hb hby at_91) rfl ((if0 _ _).trans (teq ((lw_eq _ _).mpr rfl)).2) k) ?_
  refine own_st (T' := T7) (F' := (mkF m 95 #[.val (.long x0), .second, .val (.long x1), .second, .val (.long x2), .second, .val (.long x3), .second, .val (.long x4), .second, .val (.long x5), .second, .val (.ref b1), .val (.int (1 : Int32))] [(.int (1 : Int32))])) (fun t k => XS.iconst X7.here hx rfl (hb hby at_94) k) ?_
  refine own_st (T' := T7) (F' := (mkF m 99 #[.val (.long x0), .second, .val (.long x1), .second, .val (.long x2), .second, .val (.long x3), .second, .val (.long x4), .second, .val (.long x5), .second, .val (.ref b1), .val (.int (1 : Int32))] [(.int (1 : Int32))])) (fun t k => XS.goto X7.here hx rfl (pc0 := 95) (pc' := 99) rfl (hb hby at_95) (by decide) (by decide) k) ?_
  refine own_st (T' := T7) (F' := (mkF m 101 #[.val (.long x0), .second, .val (.long x1), .second, .val (.long x2), .second, .val (.long x3), .second, .val (.long x4), .second, .val (.long x5), .second, .val (.ref b1), .val (.int (1 : Int32))] [])) (fun t k => XS.istore X7.here hx rfl (hb hby at_99) rfl (l' := #[.val (.long x0), .second, .val (.long x1), .second, .val (.long x2), .second, .val (.long x3), .second, .val (.long x4), .second, .val (.long x5), .second, .val (.ref b1), .val (.int (1 : Int32))]) rfl k) ?_
  refine own_st (T' := T7) (F' := (mkF m 103 #[.val (.long x0), .second, .val (.long x1), .second, .val (.long x2), .second, .val (.long x3), .second, .val (.long x4), .second, .val (.long x5), .second, .val (.ref b1), .val (.int (1 : Int32))] [(.int (1 : Int32))])) (fun t k => XS.iload X7.here hx rfl (hb hby at_101) rfl k) ?_
  refine own_st (T' := T7) (F' := (mkF m 106 #[.val (.long x0), .second, .val (.long x1), .second, .val (.long x2), .second, .val (.long x3), .second, .val (.long x4), .second, .val (.long x5), .second, .val (.ref b1), .val (.int (1 : Int32))] [])) (fun t k => XS.ifNo X7.here hx rfl (hb hby at_103) rfl ((if0 _ _).trans (feq (by decide : ¬ ((1 : Int32) = (0 : Int32)))).1) k) ?_
  refine own_st (T' := T7) (F' := (mkF m 108 #[.val (.long x0), .second, .val (.long x1), .second, .val (.long x2), .second, .val (.long x3), .second, .val (.long x4), .second, .val (.long x5), .second, .val (.ref b1), .val (.int (1 : Int32))] [(.ref b1)])) (fun t k => XS.aload X7.here hx rfl (hb hby at_106) rfl rfl k) ?_
  obtain ⟨cq8, kq8, q8a, q8b, q8c⟩ := isOf hZ e7 E_b1
  obtain ⟨v8, _, ⟨T8, L8, k8, n8⟩, -, X8, ⟨Lc8, hQ8, l8, y8, z8⟩, st8⟩ := X7.virtualBack hx (y := (⟨"com/example/framebeat/framebeat/FrameTimeline", "frameTimeNanos", "()J"⟩ : MethodName)) (z := (⟨"com/example/framebeat/framebeat/FrameTimeline", "frameTimeNanos", "()J"⟩ : MethodName)) hown (mvT hZ (hw _ (List.mem_of_getElem? (i := 66) rfl))) (mvT hZ (hw _ (List.mem_of_getElem? (i := 67) rfl))) (notFace_of_selects (args := #[]) (mvT hZ (hw _ (List.mem_of_getElem? (i := 69) rfl)))) (mvT hZ (hw _ (List.mem_of_getElem? (i := 69) rfl))) (mvT hZ (hw _ (List.mem_of_getElem? (i := 68) rfl))) (by decide) (backOf (W := 0) (rm8 l Z a0 CX [] b1 x2 T5.heap O F_frameTimeNanos_b1) hZ (hw _ (List.mem_of_getElem? (i := 70) rfl)) (hw _ (List.mem_of_getElem? (i := 2) rfl)) (by decide) (by decide)) q8a q8c (g := (mkF m 108 #[.val (.long x0), .second, .val (.long x1), .second, .val (.long x2), .second, .val (.long x3), .second, .val (.long x4), .second, .val (.long x5), .second, .val (.ref b1), .val (.int (1 : Int32))] [(.ref b1)])) rfl (by rw [hml]; rfl) (Steps.refl _) (argsL := []) (rest := []) (lenOf pd_4 rfl) rfl (by show 2 * 0 + _ ≤ _; exact Nat.le_of_eq rfl) (hb hby at_108) (fun _ _ => ⟨rfl, e7, (by decide : 3 + 0 ≤ _), (by decide : 17 + 0 ≤ _)⟩)
  dsimp only [Pt.U, Pt.locs, Pt.cells, Pt.slots] at X8 l8 y8 z8 st8 hQ8
  subst l8 y8 z8
  obtain ⟨rfl, N8q, e8⟩ := hQ8
  have N := Fr.app N N8q
  refine own_tr (T' := T8) (F' := (mkF m 111 #[.val (.long x0), .second, .val (.long x1), .second, .val (.long x2), .second, .val (.long x3), .second, .val (.long x4), .second, .val (.long x5), .second, .val (.ref b1), .val (.int (1 : Int32))] [(.long x2)])) st8 ?_
  refine own_st (T' := T8) (F' := (mkF m 113 #[.val (.long x0), .second, .val (.long x1), .second, .val (.long x2), .second, .val (.long x3), .second, .val (.long x4), .second, .val (.long x5), .second, .val (.ref b1), .val (.int (1 : Int32))] [(.long x2), (.long x2)])) (fun t k => XS.lload X8.here hx rfl (hb hby at_111) rfl k) ?_
  refine own_st (T' := T8) (F' := (mkF m 114 #[.val (.long x0), .second, .val (.long x1), .second, .val (.long x2), .second, .val (.long x3), .second, .val (.long x4), .second, .val (.long x5), .second, .val (.ref b1), .val (.int (1 : Int32))] [(.int (lcmpW x2 x2))])) (fun t k => XS.lcmp X8.here hx rfl (hb hby at_113) rfl k) ?_
  refine own_st (T' := T8) (F' := (mkF m 117 #[.val (.long x0), .second, .val (.long x1), .second, .val (.long x2), .second, .val (.long x3), .second, .val (.long x4), .second, .val (.long x5), .second, .val (.ref b1), .val (.int (1 : Int32))] [])) (fun t k => XS.ifNo X8.here hx rfl (hb hby at_114) rfl ((if0 _ _).trans (teq ((lw_eq _ _).mpr rfl)).2) k) ?_
  refine own_st (T' := T8) (F' := (mkF m 118 #[.val (.long x0), .second, .val (.long x1), .second, .val (.long x2), .second, .val (.long x3), .second, .val (.long x4), .second, .val (.long x5), .second, .val (.ref b1), .val (.int (1 : Int32))] [(.int (1 : Int32))])) (fun t k => XS.iconst X8.here hx rfl (hb hby at_117) k) ?_
  refine own_st (T' := T8) (F' := (mkF m 122 #[.val (.long x0), .second, .val (.long x1), .second, .val (.long x2), .second, .val (.long x3), .second, .val (.long x4), .second, .val (.long x5), .second, .val (.ref b1), .val (.int (1 : Int32))] [(.int (1 : Int32))])) (fun t k => XS.goto X8.here hx rfl (pc0 := 118) (pc' := 122) rfl (hb hby at_118) (by decide) (by decide) k) ?_
  refine own_st (T' := T8) (F' := (mkF m 124 #[.val (.long x0), .second, .val (.long x1), .second, .val (.long x2), .second, .val (.long x3), .second, .val (.long x4), .second, .val (.long x5), .second, .val (.ref b1), .val (.int (1 : Int32))] [])) (fun t k => XS.istore X8.here hx rfl (hb hby at_122) rfl (l' := #[.val (.long x0), .second, .val (.long x1), .second, .val (.long x2), .second, .val (.long x3), .second, .val (.long x4), .second, .val (.long x5), .second, .val (.ref b1), .val (.int (1 : Int32))]) rfl k) ?_
  refine own_st (T' := T8) (F' := (mkF m 126 #[.val (.long x0), .second, .val (.long x1), .second, .val (.long x2), .second, .val (.long x3), .second, .val (.long x4), .second, .val (.long x5), .second, .val (.ref b1), .val (.int (1 : Int32))] [(.int (1 : Int32))])) (fun t k => XS.iload X8.here hx rfl (hb hby at_124) rfl k) ?_
  refine own_st (T' := T8) (F' := (mkF m 129 #[.val (.long x0), .second, .val (.long x1), .second, .val (.long x2), .second, .val (.long x3), .second, .val (.long x4), .second, .val (.long x5), .second, .val (.ref b1), .val (.int (1 : Int32))] [])) (fun t k => XS.ifNo X8.here hx rfl (hb hby at_126) rfl ((if0 _ _).trans (feq (by decide : ¬ ((1 : Int32) = (0 : Int32)))).1) k) ?_
  refine own_st (T' := T8) (F' := (mkF m 131 #[.val (.long x0), .second, .val (.long x1), .second, .val (.long x2), .second, .val (.long x3), .second, .val (.long x4), .second, .val (.long x5), .second, .val (.ref b1), .val (.int (1 : Int32))] [(.ref b1)])) (fun t k => XS.aload X8.here hx rfl (hb hby at_129) rfl rfl k) ?_
  obtain ⟨cq9, kq9, q9a, q9b, q9c⟩ := isOf hZ e8 E_b1
  obtain ⟨v9, _, ⟨T9, L9, k9, n9⟩, -, X9, ⟨Lc9, hQ9, l9, y9, z9⟩, st9⟩ := X8.virtualBack hx (y := (⟨"com/example/framebeat/framebeat/FrameTimeline", "startNanos", "()J"⟩ : MethodName)) (z := (⟨"com/example/framebeat/framebeat/FrameTimeline", "startNanos", "()J"⟩ : MethodName)) hown (mvT hZ (hw _ (List.mem_of_getElem? (i := 71) rfl))) (mvT hZ (hw _ (List.mem_of_getElem? (i := 72) rfl))) (notFace_of_selects (args := #[]) (mvT hZ (hw _ (List.mem_of_getElem? (i := 74) rfl)))) (mvT hZ (hw _ (List.mem_of_getElem? (i := 74) rfl))) (mvT hZ (hw _ (List.mem_of_getElem? (i := 73) rfl))) (by decide) (backOf (W := 0) (rm9 l Z a0 CX [] b1 x3 T5.heap O F_startNanos_b1) hZ (hw _ (List.mem_of_getElem? (i := 75) rfl)) (hw _ (List.mem_of_getElem? (i := 2) rfl)) (by decide) (by decide)) q9a q9c (g := (mkF m 131 #[.val (.long x0), .second, .val (.long x1), .second, .val (.long x2), .second, .val (.long x3), .second, .val (.long x4), .second, .val (.long x5), .second, .val (.ref b1), .val (.int (1 : Int32))] [(.ref b1)])) rfl (by rw [hml]; rfl) (Steps.refl _) (argsL := []) (rest := []) (lenOf pd_4 rfl) rfl (by show 2 * 0 + _ ≤ _; exact Nat.le_of_eq rfl) (hb hby at_131) (fun _ _ => ⟨rfl, e8, (by decide : 3 + 0 ≤ _), (by decide : 17 + 0 ≤ _)⟩)
  dsimp only [Pt.U, Pt.locs, Pt.cells, Pt.slots] at X9 l9 y9 z9 st9 hQ9
  subst l9 y9 z9
  obtain ⟨rfl, N9q, e9⟩ := hQ9
  have N := Fr.app N N9q
  refine own_tr (T' := T9) (F' := (mkF m 134 #[.val (.long x0), .second, .val (.long x1), .second, .val (.long x2), .second, .val (.long x3), .second, .val (.long x4), .second, .val (.long x5), .second, .val (.ref b1), .val (.int (1 : Int32))] [(.long x3)])) st9 ?_
  refine own_st (T' := T9) (F' := (mkF m 136 #[.val (.long x0), .second, .val (.long x1), .second, .val (.long x2), .second, .val (.long x3), .second, .val (.long x4), .second, .val (.long x5), .second, .val (.ref b1), .val (.int (1 : Int32))] [(.long x3), (.long x3)])) (fun t k => XS.lload X9.here hx rfl (hb hby at_134) rfl k) ?_
  refine own_st (T' := T9) (F' := (mkF m 137 #[.val (.long x0), .second, .val (.long x1), .second, .val (.long x2), .second, .val (.long x3), .second, .val (.long x4), .second, .val (.long x5), .second, .val (.ref b1), .val (.int (1 : Int32))] [(.int (lcmpW x3 x3))])) (fun t k => XS.lcmp X9.here hx rfl (hb hby at_136) rfl k) ?_
  refine own_st (T' := T9) (F' := (mkF m 140 #[.val (.long x0), .second, .val (.long x1), .second, .val (.long x2), .second, .val (.long x3), .second, .val (.long x4), .second, .val (.long x5), .second, .val (.ref b1), .val (.int (1 : Int32))] [])) (fun t k => XS.ifNo X9.here hx rfl (hb hby at_137) rfl ((if0 _ _).trans (teq ((lw_eq _ _).mpr rfl)).2) k) ?_
  refine own_st (T' := T9) (F' := (mkF m 141 #[.val (.long x0), .second, .val (.long x1), .second, .val (.long x2), .second, .val (.long x3), .second, .val (.long x4), .second, .val (.long x5), .second, .val (.ref b1), .val (.int (1 : Int32))] [(.int (1 : Int32))])) (fun t k => XS.iconst X9.here hx rfl (hb hby at_140) k) ?_
  refine own_st (T' := T9) (F' := (mkF m 145 #[.val (.long x0), .second, .val (.long x1), .second, .val (.long x2), .second, .val (.long x3), .second, .val (.long x4), .second, .val (.long x5), .second, .val (.ref b1), .val (.int (1 : Int32))] [(.int (1 : Int32))])) (fun t k => XS.goto X9.here hx rfl (pc0 := 141) (pc' := 145) rfl (hb hby at_141) (by decide) (by decide) k) ?_
  refine own_st (T' := T9) (F' := (mkF m 147 #[.val (.long x0), .second, .val (.long x1), .second, .val (.long x2), .second, .val (.long x3), .second, .val (.long x4), .second, .val (.long x5), .second, .val (.ref b1), .val (.int (1 : Int32))] [])) (fun t k => XS.istore X9.here hx rfl (hb hby at_145) rfl (l' := #[.val (.long x0), .second, .val (.long x1), .second, .val (.long x2), .second, .val (.long x3), .second, .val (.long x4), .second, .val (.long x5), .second, .val (.ref b1), .val (.int (1 : Int32))]) rfl k) ?_
  refine own_st (T' := T9) (F' := (mkF m 149 #[.val (.long x0), .second, .val (.long x1), .second, .val (.long x2), .second, .val (.long x3), .second, .val (.long x4), .second, .val (.long x5), .second, .val (.ref b1), .val (.int (1 : Int32))] [(.int (1 : Int32))])) (fun t k => XS.iload X9.here hx rfl (hb hby at_147) rfl k) ?_
  refine own_st (T' := T9) (F' := (mkF m 152 #[.val (.long x0), .second, .val (.long x1), .second, .val (.long x2), .second, .val (.long x3), .second, .val (.long x4), .second, .val (.long x5), .second, .val (.ref b1), .val (.int (1 : Int32))] [])) (fun t k => XS.ifNo X9.here hx rfl (hb hby at_149) rfl ((if0 _ _).trans (feq (by decide : ¬ ((1 : Int32) = (0 : Int32)))).1) k) ?_
  refine own_st (T' := T9) (F' := (mkF m 154 #[.val (.long x0), .second, .val (.long x1), .second, .val (.long x2), .second, .val (.long x3), .second, .val (.long x4), .second, .val (.long x5), .second, .val (.ref b1), .val (.int (1 : Int32))] [(.ref b1)])) (fun t k => XS.aload X9.here hx rfl (hb hby at_152) rfl rfl k) ?_
  obtain ⟨cq10, kq10, q10a, q10b, q10c⟩ := isOf hZ e9 E_b1
  obtain ⟨v10, _, ⟨T10, L10, k10, n10⟩, -, X10, ⟨Lc10, hQ10, l10, y10, z10⟩, st10⟩ := X9.virtualBack hx (y := (⟨"com/example/framebeat/framebeat/FrameTimeline", "missedVsyncs", "()J"⟩ : MethodName)) (z := (⟨"com/example/framebeat/framebeat/FrameTimeline", "missedVsyncs", "()J"⟩ : MethodName)) hown (mvT hZ (hw _ (List.mem_of_getElem? (i := 76) rfl))) (mvT hZ (hw _ (List.mem_of_getElem? (i := 77) rfl))) (notFace_of_selects (args := #[]) (mvT hZ (hw _ (List.mem_of_getElem? (i := 79) rfl)))) (mvT hZ (hw _ (List.mem_of_getElem? (i := 79) rfl))) (mvT hZ (hw _ (List.mem_of_getElem? (i := 78) rfl))) (by decide) (backOf (W := 0) (rm10 l Z a0 CX [] b1 x4 T5.heap O F_missedVsyncs_b1) hZ (hw _ (List.mem_of_getElem? (i := 80) rfl)) (hw _ (List.mem_of_getElem? (i := 2) rfl)) (by decide) (by decide)) q10a q10c (g := (mkF m 154 #[.val (.long x0), .second, .val (.long x1), .second, .val (.long x2), .second, .val (.long x3), .second, .val (.long x4), .second, .val (.long x5), .second, .val (.ref b1), .val (.int (1 : Int32))] [(.ref b1)])) rfl (by rw [hml]; rfl) (Steps.refl _) (argsL := []) (rest := []) (lenOf pd_4 rfl) rfl (by show 2 * 0 + _ ≤ _; exact Nat.le_of_eq rfl) (hb hby at_154) (fun _ _ => ⟨rfl, e9, (by decide : 3 + 0 ≤ _), (by decide : 17 + 0 ≤ _)⟩)
  dsimp only [Pt.U, Pt.locs, Pt.cells, Pt.slots] at X10 l10 y10 z10 st10 hQ10
  subst l10 y10 z10
  obtain ⟨rfl, N10q, e10⟩ := hQ10
  have N := Fr.app N N10q
  refine own_tr (T' := T10) (F' := (mkF m 157 #[.val (.long x0), .second, .val (.long x1), .second, .val (.long x2), .second, .val (.long x3), .second, .val (.long x4), .second, .val (.long x5), .second, .val (.ref b1), .val (.int (1 : Int32))] [(.long x4)])) st10 ?_
  refine own_st (T' := T10) (F' := (mkF m 159 #[.val (.long x0), .second, .val (.long x1), .second, .val (.long x2), .second, .val (.long x3), .second, .val (.long x4), .second, .val (.long x5), .second, .val (.ref b1), .val (.int (1 : Int32))] [(.long x4), (.long x4)])) (fun t k => XS.lload X10.here hx rfl (hb hby at_157) rfl k) ?_
  refine own_st (T' := T10) (F' := (mkF m 160 #[.val (.long x0), .second, .val (.long x1), .second, .val (.long x2), .second, .val (.long x3), .second, .val (.long x4), .second, .val (.long x5), .second, .val (.ref b1), .val (.int (1 : Int32))] [(.int (lcmpW x4 x4))])) (fun t k => XS.lcmp X10.here hx rfl (hb hby at_159) rfl k) ?_
  refine own_st (T' := T10) (F' := (mkF m 163 #[.val (.long x0), .second, .val (.long x1), .second, .val (.long x2), .second, .val (.long x3), .second, .val (.long x4), .second, .val (.long x5), .second, .val (.ref b1), .val (.int (1 : Int32))] [])) (fun t k => XS.ifNo X10.here hx rfl (hb hby at_160) rfl ((if0 _ _).trans (teq ((lw_eq _ _).mpr rfl)).2) k) ?_
  refine own_st (T' := T10) (F' := (mkF m 164 #[.val (.long x0), .second, .val (.long x1), .second, .val (.long x2), .second, .val (.long x3), .second, .val (.long x4), .second, .val (.long x5), .second, .val (.ref b1), .val (.int (1 : Int32))] [(.int (1 : Int32))])) (fun t k => XS.iconst X10.here hx rfl (hb hby at_163) k) ?_
  refine own_st (T' := T10) (F' := (mkF m 168 #[.val (.long x0), .second, .val (.long x1), .second, .val (.long x2), .second, .val (.long x3), .second, .val (.long x4), .second, .val (.long x5), .second, .val (.ref b1), .val (.int (1 : Int32))] [(.int (1 : Int32))])) (fun t k => XS.goto X10.here hx rfl (pc0 := 164) (pc' := 168) rfl (hb hby at_164) (by decide) (by decide) k) ?_
  refine own_st (T' := T10) (F' := (mkF m 170 #[.val (.long x0), .second, .val (.long x1), .second, .val (.long x2), .second, .val (.long x3), .second, .val (.long x4), .second, .val (.long x5), .second, .val (.ref b1), .val (.int (1 : Int32))] [])) (fun t k => XS.istore X10.here hx rfl (hb hby at_168) rfl (l' := #[.val (.long x0), .second, .val (.long x1), .second, .val (.long x2), .second, .val (.long x3), .second, .val (.long x4), .second, .val (.long x5), .second, .val (.ref b1), .val (.int (1 : Int32))]) rfl k) ?_
  refine own_st (T' := T10) (F' := (mkF m 172 #[.val (.long x0), .second, .val (.long x1), .second, .val (.long x2), .second, .val (.long x3), .second, .val (.long x4), .second, .val (.long x5), .second, .val (.ref b1), .val (.int (1 : Int32))] [(.int (1 : Int32))])) (fun t k => XS.iload X10.here hx rfl (hb hby at_170) rfl k) ?_
  refine own_st (T' := T10) (F' := (mkF m 175 #[.val (.long x0), .second, .val (.long x1), .second, .val (.long x2), .second, .val (.long x3), .second, .val (.long x4), .second, .val (.long x5), .second, .val (.ref b1), .val (.int (1 : Int32))] [])) (fun t k => XS.ifNo X10.here hx rfl (hb hby at_172) rfl ((if0 _ _).trans (feq (by decide : ¬ ((1 : Int32) = (0 : Int32)))).1) k) ?_
  refine own_st (T' := T10) (F' := (mkF m 177 #[.val (.long x0), .second, .val (.long x1), .second, .val (.long x2), .second, .val (.long x3), .second, .val (.long x4), .second, .val (.long x5), .second, .val (.ref b1), .val (.int (1 : Int32))] [(.ref b1)])) (fun t k => XS.aload X10.here hx rfl (hb hby at_175) rfl rfl k) ?_
  obtain ⟨cq11, kq11, q11a, q11b, q11c⟩ := isOf hZ e10 E_b1
  obtain ⟨v11, _, ⟨T11, L11, k11, n11⟩, -, X11, ⟨Lc11, hQ11, l11, y11, z11⟩, st11⟩ := X10.virtualBack hx (y := (⟨"com/example/framebeat/framebeat/FrameTimeline", "endNanos", "()J"⟩ : MethodName)) (z := (⟨"com/example/framebeat/framebeat/FrameTimeline", "endNanos", "()J"⟩ : MethodName)) hown (mvT hZ (hw _ (List.mem_of_getElem? (i := 81) rfl))) (mvT hZ (hw _ (List.mem_of_getElem? (i := 82) rfl))) (notFace_of_selects (args := #[]) (mvT hZ (hw _ (List.mem_of_getElem? (i := 84) rfl)))) (mvT hZ (hw _ (List.mem_of_getElem? (i := 84) rfl))) (mvT hZ (hw _ (List.mem_of_getElem? (i := 83) rfl))) (by decide) (backOf (W := 0) (rm11 l Z a0 CX [] b1 x5 T5.heap O F_endNanos_b1) hZ (hw _ (List.mem_of_getElem? (i := 85) rfl)) (hw _ (List.mem_of_getElem? (i := 2) rfl)) (by decide) (by decide)) q11a q11c (g := (mkF m 177 #[.val (.long x0), .second, .val (.long x1), .second, .val (.long x2), .second, .val (.long x3), .second, .val (.long x4), .second, .val (.long x5), .second, .val (.ref b1), .val (.int (1 : Int32))] [(.ref b1)])) rfl (by rw [hml]; rfl) (Steps.refl _) (argsL := []) (rest := []) (lenOf pd_4 rfl) rfl (by show 2 * 0 + _ ≤ _; exact Nat.le_of_eq rfl) (hb hby at_177) (fun _ _ => ⟨rfl, e10, (by decide : 3 + 0 ≤ _), (by decide : 17 + 0 ≤ _)⟩)
  dsimp only [Pt.U, Pt.locs, Pt.cells, Pt.slots] at X11 l11 y11 z11 st11 hQ11
  subst l11 y11 z11
  obtain ⟨rfl, N11q, e11⟩ := hQ11
  have N := Fr.app N N11q
  refine own_tr (T' := T11) (F' := (mkF m 180 #[.val (.long x0), .second, .val (.long x1), .second, .val (.long x2), .second, .val (.long x3), .second, .val (.long x4), .second, .val (.long x5), .second, .val (.ref b1), .val (.int (1 : Int32))] [(.long x5)])) st11 ?_
  refine own_st (T' := T11) (F' := (mkF m 182 #[.val (.long x0), .second, .val (.long x1), .second, .val (.long x2), .second, .val (.long x3), .second, .val (.long x4), .second, .val (.long x5), .second, .val (.ref b1), .val (.int (1 : Int32))] [(.long x5), (.long x5)])) (fun t k => XS.lload X11.here hx rfl (hb hby at_180) rfl k) ?_
  refine own_st (T' := T11) (F' := (mkF m 183 #[.val (.long x0), .second, .val (.long x1), .second, .val (.long x2), .second, .val (.long x3), .second, .val (.long x4), .second, .val (.long x5), .second, .val (.ref b1), .val (.int (1 : Int32))] [(.int (lcmpW x5 x5))])) (fun t k => XS.lcmp X11.here hx rfl (hb hby at_182) rfl k) ?_
  refine own_st (T' := T11) (F' := (mkF m 186 #[.val (.long x0), .second, .val (.long x1), .second, .val (.long x2), .second, .val (.long x3), .second, .val (.long x4), .second, .val (.long x5), .second, .val (.ref b1), .val (.int (1 : Int32))] [])) (fun t k => XS.ifNo X11.here hx rfl (hb hby at_183) rfl ((if0 _ _).trans (teq ((lw_eq _ _).mpr rfl)).2) k) ?_
  refine own_st (T' := T11) (F' := (mkF m 187 #[.val (.long x0), .second, .val (.long x1), .second, .val (.long x2), .second, .val (.long x3), .second, .val (.long x4), .second, .val (.long x5), .second, .val (.ref b1), .val (.int (1 : Int32))] [(.int (1 : Int32))])) (fun t k => XS.iconst X11.here hx rfl (hb hby at_186) k) ?_
  refine own_st (T' := T11) (F' := (mkF m 191 #[.val (.long x0), .second, .val (.long x1), .second, .val (.long x2), .second, .val (.long x3), .second, .val (.long x4), .second, .val (.long x5), .second, .val (.ref b1), .val (.int (1 : Int32))] [(.int (1 : Int32))])) (fun t k => XS.goto X11.here hx rfl (pc0 := 187) (pc' := 191) rfl (hb hby at_187) (by decide) (by decide) k) ?_
  refine own_st (T' := T11) (F' := (mkF m 193 #[.val (.long x0), .second, .val (.long x1), .second, .val (.long x2), .second, .val (.long x3), .second, .val (.long x4), .second, .val (.long x5), .second, .val (.ref b1), .val (.int (1 : Int32))] [])) (fun t k => XS.istore X11.here hx rfl (hb hby at_191) rfl (l' := #[.val (.long x0), .second, .val (.long x1), .second, .val (.long x2), .second, .val (.long x3), .second, .val (.long x4), .second, .val (.long x5), .second, .val (.ref b1), .val (.int (1 : Int32))]) rfl k) ?_
  refine own_st (T' := T11) (F' := (mkF m 195 #[.val (.long x0), .second, .val (.long x1), .second, .val (.long x2), .second, .val (.long x3), .second, .val (.long x4), .second, .val (.long x5), .second, .val (.ref b1), .val (.int (1 : Int32))] [(.int (1 : Int32))])) (fun t k => XS.iload X11.here hx rfl (hb hby at_193) rfl k) ?_
  exact own_retN X11 hx (t := .boolean) Bd.returns (by simp) (by decide) (hb hby at_195) hlk (by show Q0 Z _ T11.heap _; rw [e11]; exact ⟨rfl, N⟩) (by decide) (by decide)
set_option maxRecDepth 65536 in
set_option maxHeartbeats 40000000 in
theorem comes_1 {Post : Tables → Env → Array Value → State → Outcome → State → Prop} (hpost : ∀ tb e args s v u, (limb_1_1.after args s (.returned v) u = true ∧ limb_1_2.after args s (.returned v) u = true ∧ True) → FrameEnd s (.returned v) u (Jvm.fieldLocs frame_1_writes args s ++ Jvm.arrayLocs frame_1_arrays args s ++ Jvm.staticLocs frame_1_statics s) 16 128 → Post tb e args s (.returned v) u) :
    ArmFor flags0 classFile x code maxLocals ret World_1 tables_1 room_1 Calls_1 rest_1 Pre_1 Post := by
  intro l hfl _ _ p e ha hc hk s m args below hf hA hF happ hP
  obtain ⟨hcalls, hrest, hpre⟩ := hP
  obtain ⟨-, -, -, hnamed, -, -, -, hat⟩ := (Spec.applies_iff hf).mp happ
  obtain ⟨hg, hn⟩ := and_e (Cond.before_iff.mp (show (Jvm.Cond.and given_1 narrow_1).before args s = true from hpre))
  obtain ⟨g0, g1⟩ := and_e hg
  obtain ⟨g2, g3⟩ := and_e g1
  obtain ⟨g4, g5⟩ := and_e g3
  obtain ⟨g6, g7⟩ := and_e g5
  obtain ⟨g8, g9⟩ := and_e g7
  obtain ⟨g10, g11⟩ := and_e g9
  obtain ⟨w0, w1, w2, w3, w4, w5, rfl⟩ : ∃ w0 w1 w2 w3 w4 w5 : Value, args = #[w0, w1, w2, w3, w4, w5] := by
    have hs : args.size = 6 := by simpa [Cond.value, given_1] using g0
    obtain ⟨L⟩ := args
    match L, hs with
    | [w0, w1, w2, w3, w4, w5], _ => exact ⟨w0, w1, w2, w3, w4, w5, rfl⟩
  have hw := fun d (hd : d ∈ tables_1) => atoms_spec (ws := Jvm.Cond.code x code maxLocals ret :: tables_1) hat d (List.mem_cons_of_mem _ hd)
  have hfit : Fit s := fun {y c} hc i hi => by
    obtain ⟨ha, rfl⟩ := Array.getElem?_eq_some_iff.mp hc
    have q := List.all_eq_true.mp ((Array.all_eq_true_iff_forall_mem.mp hF) _ (Array.getElem_mem ha)) i (List.mem_range.mpr hi)
    simpa [Array.getElem?_eq_getElem hi] using q
  obtain ⟨i0, ei0⟩ := isL_v g2
  obtain rfl : w0 = (.long i0) := Option.some.inj ei0
  obtain ⟨i1, ei1⟩ := isL_v g4
  obtain rfl : w1 = (.long i1) := Option.some.inj ei1
  obtain ⟨i2, ei2⟩ := isL_v g6
  obtain rfl : w2 = (.long i2) := Option.some.inj ei2
  obtain ⟨i3, ei3⟩ := isL_v g8
  obtain rfl : w3 = (.long i3) := Option.some.inj ei3
  obtain ⟨i4, ei4⟩ := isL_v g10
  obtain rfl : w4 = (.long i4) := Option.some.inj ei4
  obtain ⟨i5, ei5⟩ := isL_v g11
  obtain rfl : w5 = (.long i5) := Option.some.inj ei5
  obtain ⟨n0a, n0b⟩ := and_e hn
  obtain ⟨n1a, n1b⟩ := and_e n0b
  obtain ⟨n2a, n2b⟩ := and_e n1b
  obtain ⟨n3a, n3b⟩ := and_e n2b
  obtain ⟨n4a, n4b⟩ := and_e n3b
  obtain ⟨n5a, n5b⟩ := and_e n4b
  obtain ⟨n6a, n6b⟩ := and_e n5b
  obtain ⟨n7a, n7b⟩ := and_e n6b
  obtain ⟨n8a, n8b⟩ := and_e n7b
  obtain ⟨n9a, n9b⟩ := and_e n8b
  obtain ⟨n10a, n10b⟩ := and_e n9b
  obtain ⟨n11a, n11b⟩ := and_e n10b
  obtain ⟨w_INPUT, v_INPUT⟩ := exa_v n3a
  have E_INPUT := Exa.start v_INPUT n3a
  have S_INPUT := Sta.start v_INPUT (Or.inr ⟨(hw _ (List.mem_of_getElem? (i := 11) rfl)), (hw _ (List.mem_of_getElem? (i := 22) rfl))⟩)
  obtain ⟨w_ANIMATION, v_ANIMATION⟩ := exa_v n5a
  have E_ANIMATION := Exa.start v_ANIMATION n5a
  have S_ANIMATION := Sta.start v_ANIMATION (Or.inr ⟨(hw _ (List.mem_of_getElem? (i := 11) rfl)), (hw _ (List.mem_of_getElem? (i := 23) rfl))⟩)
  obtain ⟨w_INSETS_ANIMATION, v_INSETS_ANIMATION⟩ := exa_v n7a
  have E_INSETS_ANIMATION := Exa.start v_INSETS_ANIMATION n7a
  have S_INSETS_ANIMATION := Sta.start v_INSETS_ANIMATION (Or.inr ⟨(hw _ (List.mem_of_getElem? (i := 11) rfl)), (hw _ (List.mem_of_getElem? (i := 24) rfl))⟩)
  obtain ⟨w_TRAVERSAL, v_TRAVERSAL⟩ := exa_v n9a
  have E_TRAVERSAL := Exa.start v_TRAVERSAL n9a
  have S_TRAVERSAL := Sta.start v_TRAVERSAL (Or.inr ⟨(hw _ (List.mem_of_getElem? (i := 11) rfl)), (hw _ (List.mem_of_getElem? (i := 25) rfl))⟩)
  obtain ⟨w_COMMIT, v_COMMIT⟩ := exa_v n11a
  have E_COMMIT := Exa.start v_COMMIT n11a
  have S_COMMIT := Sta.start v_COMMIT (Or.inr ⟨(hw _ (List.mem_of_getElem? (i := 11) rfl)), (hw _ (List.mem_of_getElem? (i := 26) rfl))⟩)
  obtain ⟨w_VAL, v_VAL⟩ := arr_v n0a
  have S_VAL := Sta.start v_VAL (Or.inr ⟨(hw _ (List.mem_of_getElem? (i := 11) rfl)), (hw _ (List.mem_of_getElem? (i := 14) rfl))⟩)
  have E_VAL := Exa.start v_VAL n1a
  obtain ⟨cl_VAL, A_VAL⟩ := Arr.start v_VAL n0a
  obtain ⟨z1_VAL, z2_VAL⟩ := own_len (own_eq_int n2a) v_VAL A_VAL.1
  have M0_VAL := elem_in (own_eq_ref n4a v_INPUT) v_VAL rfl A_VAL.1
  have M1_VAL := elem_in (own_eq_ref n6a v_ANIMATION) v_VAL rfl A_VAL.1
  have M2_VAL := elem_in (own_eq_ref n8a v_INSETS_ANIMATION) v_VAL rfl A_VAL.1
  have M3_VAL := elem_in (own_eq_ref n10a v_TRAVERSAL) v_VAL rfl A_VAL.1
  have M4_VAL := elem_in (own_eq_ref n11b v_COMMIT) v_VAL rfl A_VAL.1
  have V_VAL : Arv s s.heap w_VAL cl_VAL.cls (.object "com/example/framebeat/framebeat/FrameScheduler$Kind") (5 : Int32) [(.ref w_INPUT), (.ref w_ANIMATION), (.ref w_INSETS_ANIMATION), (.ref w_TRAVERSAL), (.ref w_COMMIT)] .null := Arv.start hfit A_VAL z1_VAL z2_VAL (by decide) rfl ⟨M0_VAL.2, M1_VAL.2, M2_VAL.2, M3_VAL.2, M4_VAL.2, trivial⟩
  obtain ⟨k_VAL, hk_VAL⟩ : ∃ z, z = cl_VAL.cls := ⟨_, rfl⟩
  rw [← hk_VAL] at V_VAL
  have CX : Ctx s _ w_INPUT w_ANIMATION w_INSETS_ANIMATION w_TRAVERSAL w_COMMIT w_VAL k_VAL := ⟨hw, S_INPUT, E_INPUT, S_ANIMATION, E_ANIMATION, S_INSETS_ANIMATION, E_INSETS_ANIMATION, S_TRAVERSAL, E_TRAVERSAL, S_COMMIT, E_COMMIT, S_VAL, E_VAL, V_VAL, trivial⟩
  obtain ⟨n, o, h1, h2, h3, _, L, rfl, ⟨rfl, N⟩, hq⟩ := rm0 l s _ CX tables_1 i0 i1 i2 i3 i4 i5 s.heap (own_ext_refl _)  p e ha hc hk s m _ below hf ((Spec.applies_iff_loose hf).mp happ).1 ⟨rfl, State.Warmed39.refl s, rfl⟩ trivial
  refine ⟨n, _, h1, h2, h3, hpost _ _ _ _ _ _ ⟨Cond.after_iff.mpr rfl, Cond.after_iff.mpr (eq_i res_at (Term.int_eval (1)) rfl), trivial⟩ ⟨hq.1, hq.2.1, (hq.2.2.sift fun y hy => Or.inr (N y hy)).mono (by decide) (by decide)⟩⟩
theorem main_1_1 : Claimed_1_1 := comes_1 fun _ _ _ _ _ _ h hF => ⟨h.1, hF⟩
theorem main_1_2 : Claimed_1_2 := comes_1 fun _ _ _ _ _ _ h hF => ⟨h.2.1, hF⟩
end Jvm.Pilot.@@N@@
namespace Jvm.Pilot.@@N@@
open Jvm Jvm.ClassFile Sem Op Lib Jvm.Free Jvm.Stand Jvm.Pilot.@@N@@.Jvm.D
/-! MADE BY PROGRAM (witnessworld.py) out of the Statement's table words and the real class files: 16 classes; the members and pool entries that the words name. The judged class is class 1, her method 1. -/
namespace start1
open Jvm.ClassFile
def u (s : String) : CpInfo := .utf8 (stringToUtf16 s)
/-- a pool by its gaps: so many unusable entries, then the entry; so many at the end -/
def gap : Nat → List CpInfo → List CpInfo
  | 0, r => r
  | n + 1, r => .unusable :: gap n r
def poolList (es : List (Nat × CpInfo)) (last : Nat) : List CpInfo := es.foldr (fun e r => gap e.1 (e.2 :: r)) (gap last [])
def pool (es : List (Nat × CpInfo)) (last : Nat) : Array CpInfo := ⟨poolList es last⟩
def fileOf (pool : Array CpInfo) (this : Nat) (attrs : Array Attribute := #[]) (ms : Array MethodInfo := #[]) (fl : Nat := 33) (sup : Nat := 0) (ifs : Array Nat := #[]) (fds : Array FieldInfo := #[]) : ClassFile where
  minorVersion := 0
  majorVersion := 65
  constantPool := pool
  accessFlags := fl
  thisClass := this
  superClass := sup
  interfaces := ifs
  fields := fds
  methods := ms
  attributes := attrs
def plain (name : String) (sup : Option ClassId) : Class where
  name := name
  kind := .ordinary
  loader := none
  accessFlags := 33
  super := sup
  interfaces := #[]
  cf := none
  fields := #[]
  methods := #[]
  instanceTypes := #[]
  staticTypes := #[]
  resolved := #[]
  callSites := []
  init := .initialized
  statics := none
  mirror := none

def pool0 : Array CpInfo := pool [(5, u "<init>"), (0, u "()V"), (1, .class_ 10), (1, u "java/lang/Object"), (85, u "clone"), (0, u "()Ljava/lang/Object;")] 26

def k0c0 : Code := { maxStack := 0, maxLocals := 1, code := object_method_1_code, exceptionTable := #[], attributes := #[] }
def k0m0 : Method := { name := "<init>", desc := "()V", sig := { parameters := [], returnType := none }, accessFlags := 1, code := some k0c0 }
def k0m1 : Method := { name := "clone", desc := "()Ljava/lang/Object;", sig := { parameters := [], returnType := some (.object "java/lang/Object") }, accessFlags := 260, code := none }
/-- java/lang/Object -/
def k0 : Class := { plain "java/lang/Object" none with
  accessFlags := 33
  interfaces := #[]
  cf := some (fileOf pool0 8 #[] #[{ accessFlags := 1, nameIndex := 5, descriptorIndex := 6, attributes := #[] }, { accessFlags := 260, nameIndex := 96, descriptorIndex := 97, attributes := #[] }] 33 0 #[] #[])
  fields := #[]
  methods := #[k0m0, k0m1]
  instanceTypes := #[]
  staticTypes := #[]
  resolved := Array.replicate 124 none
  statics := none }

def pool1 : Array CpInfo := pool [(2, .class_ 4), (0, .nameAndType 5 6), (0, u "java/lang/Object"), (0, u "<init>"), (0, u "()V"), (0, .class_ 8), (0, u "com/example/framebeat/framebeat/FrameTimeline"), (0, .methodref 7 3), (0, .methodref 7 11), (0, .nameAndType 12 13), (0, u "end"), (0, u "(J)V"), (0, .long 18446744073709551615), (1, .methodref 7 17), (0, .nameAndType 18 19), (0, u "begin"), (0, u "(JJJJJ)V"), (0, .methodref 7 21), (0, .nameAndType 22 23), (0, u "periodNanos"), (0, u "()J"), (0, .methodref 7 25), (0, .nameAndType 26 23), (0, u "intendedVsyncNanos"), (0, .methodref 7 28), (0, .nameAndType 29 23), (0, u "frameTimeNanos"), (0, .methodref 7 31), (0, .nameAndType 32 23), (0, u "startNanos"), (0, .methodref 7 34), (0, .nameAndType 35 23), (0, u "missedVsyncs"), (0, .methodref 7 37), (0, .nameAndType 38 23), (0, u "endNanos"), (0, .class_ 40), (0, u "com/example/framebeat/framebeat/FrameTimelineBeginPinLaw"), (2, u "law"), (0, u "(JJJJJJ)Z")] 3

def k1m0 : Method := { name := "<init>", desc := "()V", sig := { parameters := [], returnType := none }, accessFlags := 1, code := none }
def k1c1 : Code := { maxStack := 13, maxLocals := 14, code := code, exceptionTable := #[], attributes := #[] }
def k1m1 : Method := { name := "law", desc := "(JJJJJJ)Z", sig := { parameters := [.long, .long, .long, .long, .long, .long], returnType := some .boolean }, accessFlags := 9, code := some k1c1 }
/-- com/example/framebeat/framebeat/FrameTimelineBeginPinLaw -/
def k1 : Class := { plain "com/example/framebeat/framebeat/FrameTimelineBeginPinLaw" (some 0) with
  accessFlags := 49
  interfaces := #[]
  cf := some (fileOf pool1 39 #[] #[{ accessFlags := 1, nameIndex := 5, descriptorIndex := 6, attributes := #[] }, { accessFlags := 9, nameIndex := 43, descriptorIndex := 44, attributes := #[] }] 49 2 #[] #[])
  fields := #[]
  methods := #[k1m0, k1m1]
  instanceTypes := #[]
  staticTypes := #[]
  resolved := Array.replicate 48 none
  statics := none }

def pool2 : Array CpInfo := pool [(1, .methodref 2 3), (0, .class_ 4), (0, .nameAndType 5 6), (0, u "java/lang/Object"), (0, u "<init>"), (0, u "()V"), (0, .methodref 8 9), (0, .class_ 10), (0, .nameAndType 11 12), (0, u "com/example/framebeat/framebeat/FrameScheduler$Kind"), (0, u "values"), (0, u "()[Lcom/example/framebeat/framebeat/FrameScheduler$Kind;"), (0, .fieldref 14 15), (0, .class_ 16), (0, .nameAndType 17 18), (0, u "com/example/framebeat/framebeat/FrameTimeline"), (0, u "phaseStartNanos"), (0, u "[J"), (0, .fieldref 14 20), (0, .nameAndType 21 22), (0, u "periodNanos"), (0, u "J"), (0, .fieldref 14 24), (0, .nameAndType 25 22), (0, u "intendedVsyncNanos"), (0, .fieldref 14 27), (0, .nameAndType 28 22), (0, u "frameTimeNanos"), (0, .fieldref 14 30), (0, .nameAndType 31 22), (0, u "startNanos"), (4, .fieldref 14 37), (0, .nameAndType 38 22), (0, u "endNanos"), (0, .fieldref 14 40), (0, .nameAndType 41 22), (0, u "missedVsyncs"), (2, u "()J"), (1, u "begin"), (0, u "(JJJJJ)V"), (2, u "end"), (0, u "(J)V")] 6

def k2c0 : Code := { maxStack := 2, maxLocals := 1, code := prog_19_method_1_code, exceptionTable := #[], attributes := #[] }
def k2m0 : Method := { name := "<init>", desc := "()V", sig := { parameters := [], returnType := none }, accessFlags := 0, code := some k2c0 }
def k2c1 : Code := { maxStack := 2, maxLocals := 1, code := prog_19_method_2_code, exceptionTable := #[], attributes := #[] }
def k2m1 : Method := { name := "periodNanos", desc := "()J", sig := { parameters := [], returnType := some .long }, accessFlags := 1, code := some k2c1 }
def k2c2 : Code := { maxStack := 2, maxLocals := 1, code := prog_19_method_3_code, exceptionTable := #[], attributes := #[] }
def k2m2 : Method := { name := "intendedVsyncNanos", desc := "()J", sig := { parameters := [], returnType := some .long }, accessFlags := 1, code := some k2c2 }
def k2c3 : Code := { maxStack := 2, maxLocals := 1, code := prog_19_method_4_code, exceptionTable := #[], attributes := #[] }
def k2m3 : Method := { name := "frameTimeNanos", desc := "()J", sig := { parameters := [], returnType := some .long }, accessFlags := 1, code := some k2c3 }
def k2c4 : Code := { maxStack := 2, maxLocals := 1, code := prog_19_method_5_code, exceptionTable := #[], attributes := #[] }
def k2m4 : Method := { name := "startNanos", desc := "()J", sig := { parameters := [], returnType := some .long }, accessFlags := 1, code := some k2c4 }
def k2c5 : Code := { maxStack := 2, maxLocals := 1, code := prog_19_method_7_code, exceptionTable := #[], attributes := #[] }
def k2m5 : Method := { name := "endNanos", desc := "()J", sig := { parameters := [], returnType := some .long }, accessFlags := 1, code := some k2c5 }
def k2c6 : Code := { maxStack := 2, maxLocals := 1, code := prog_19_method_8_code, exceptionTable := #[], attributes := #[] }
def k2m6 : Method := { name := "missedVsyncs", desc := "()J", sig := { parameters := [], returnType := some .long }, accessFlags := 1, code := some k2c6 }
def k2c7 : Code := { maxStack := 3, maxLocals := 11, code := prog_19_method_9_code, exceptionTable := #[], attributes := #[] }
def k2m7 : Method := { name := "begin", desc := "(JJJJJ)V", sig := { parameters := [.long, .long, .long, .long, .long], returnType := none }, accessFlags := 0, code := some k2c7 }
def k2c8 : Code := { maxStack := 3, maxLocals := 3, code := prog_19_method_11_code, exceptionTable := #[], attributes := #[] }
def k2m8 : Method := { name := "end", desc := "(J)V", sig := { parameters := [.long], returnType := none }, accessFlags := 0, code := some k2c8 }
/-- com/example/framebeat/framebeat/FrameTimeline -/
def k2 : Class := { plain "com/example/framebeat/framebeat/FrameTimeline" (some 0) with
  accessFlags := 49
  interfaces := #[]
  cf := some (fileOf pool2 14 #[] #[{ accessFlags := 0, nameIndex := 5, descriptorIndex := 6, attributes := #[] }, { accessFlags := 1, nameIndex := 21, descriptorIndex := 44, attributes := #[] }, { accessFlags := 1, nameIndex := 25, descriptorIndex := 44, attributes := #[] }, { accessFlags := 1, nameIndex := 28, descriptorIndex := 44, attributes := #[] }, { accessFlags := 1, nameIndex := 31, descriptorIndex := 44, attributes := #[] }, { accessFlags := 1, nameIndex := 38, descriptorIndex := 44, attributes := #[] }, { accessFlags := 1, nameIndex := 41, descriptorIndex := 44, attributes := #[] }, { accessFlags := 0, nameIndex := 46, descriptorIndex := 47, attributes := #[] }, { accessFlags := 0, nameIndex := 50, descriptorIndex := 51, attributes := #[] }] 49 2 #[] #[{ accessFlags := 2, nameIndex := 21, descriptorIndex := 22, attributes := #[] }, { accessFlags := 2, nameIndex := 25, descriptorIndex := 22, attributes := #[] }, { accessFlags := 2, nameIndex := 28, descriptorIndex := 22, attributes := #[] }, { accessFlags := 2, nameIndex := 31, descriptorIndex := 22, attributes := #[] }, { accessFlags := 18, nameIndex := 17, descriptorIndex := 18, attributes := #[] }, { accessFlags := 2, nameIndex := 38, descriptorIndex := 22, attributes := #[] }, { accessFlags := 2, nameIndex := 41, descriptorIndex := 22, attributes := #[] }])
  fields := #[{ name := "periodNanos", type := .long, accessFlags := 2, slot := 0, constantValue := 0 }, { name := "intendedVsyncNanos", type := .long, accessFlags := 2, slot := 1, constantValue := 0 }, { name := "frameTimeNanos", type := .long, accessFlags := 2, slot := 2, constantValue := 0 }, { name := "startNanos", type := .long, accessFlags := 2, slot := 3, constantValue := 0 }, { name := "phaseStartNanos", type := (.array .long), accessFlags := 18, slot := 4, constantValue := 0 }, { name := "endNanos", type := .long, accessFlags := 2, slot := 5, constantValue := 0 }, { name := "missedVsyncs", type := .long, accessFlags := 2, slot := 6, constantValue := 0 }]
  methods := #[k2m0, k2m1, k2m2, k2m3, k2m4, k2m5, k2m6, k2m7, k2m8]
  instanceTypes := #[.long, .long, .long, .long, (.array .long), .long, .long]
  staticTypes := #[]
  resolved := Array.replicate 58 none
  statics := none }

def pool3 : Array CpInfo := pool [(1, .class_ 2), (0, u "java/lang/constant/Constable"), (0, .class_ 4), (0, u "java/lang/Object")] 6

/-- java/lang/constant/Constable -/
def k3 : Class := { plain "java/lang/constant/Constable" (some 0) with
  accessFlags := 1537
  interfaces := #[]
  cf := some (fileOf pool3 1 #[] #[] 1537 3 #[] #[])
  fields := #[]
  methods := #[]
  instanceTypes := #[]
  staticTypes := #[]
  resolved := Array.replicate 11 none
  statics := none }

def pool4 : Array CpInfo := pool [(1, .class_ 2), (0, u "java/lang/Comparable"), (0, .class_ 4), (0, u "java/lang/Object")] 7

/-- java/lang/Comparable -/
def k4 : Class := { plain "java/lang/Comparable" (some 0) with
  accessFlags := 1537
  interfaces := #[]
  cf := some (fileOf pool4 1 #[] #[] 1537 3 #[] #[])
  fields := #[]
  methods := #[]
  instanceTypes := #[]
  staticTypes := #[]
  resolved := Array.replicate 12 none
  statics := none }

def pool5 : Array CpInfo := pool [(1, .class_ 2), (0, u "java/io/Serializable"), (0, .class_ 4), (0, u "java/lang/Object")] 2

/-- java/io/Serializable -/
def k5 : Class := { plain "java/io/Serializable" (some 0) with
  accessFlags := 1537
  interfaces := #[]
  cf := some (fileOf pool5 1 #[] #[] 1537 3 #[] #[])
  fields := #[]
  methods := #[]
  instanceTypes := #[]
  staticTypes := #[]
  resolved := Array.replicate 7 none
  statics := none }

def pool6 : Array CpInfo := pool [(2, .class_ 4), (1, u "java/lang/Enum"), (0, u "name"), (0, u "Ljava/lang/String;"), (2, u "ordinal"), (0, u "I"), (1, .class_ 14), (1, u "java/lang/Object"), (4, u "hash"), (86, .class_ 108), (1, u "java/lang/Enum$EnumDesc"), (2, .class_ 112), (0, u "java/lang/constant/Constable"), (0, .class_ 114), (0, u "java/lang/Comparable"), (0, .class_ 116), (0, u "java/io/Serializable")] 87

/-- java/lang/Enum -/
def k6 : Class := { plain "java/lang/Enum" (some 0) with
  accessFlags := 1057
  interfaces := #[3, 4, 5]
  cf := some (fileOf pool6 2 #[.nestMembers #[106]] #[] 1057 12 #[111, 113, 115] #[{ accessFlags := 18, nameIndex := 5, descriptorIndex := 6, attributes := #[] }, { accessFlags := 18, nameIndex := 9, descriptorIndex := 10, attributes := #[] }, { accessFlags := 2, nameIndex := 19, descriptorIndex := 10, attributes := #[] }])
  fields := #[{ name := "name", type := (.object "java/lang/String"), accessFlags := 18, slot := 0, constantValue := 0 }, { name := "ordinal", type := .int, accessFlags := 18, slot := 1, constantValue := 0 }, { name := "hash", type := .int, accessFlags := 2, slot := 2, constantValue := 0 }]
  methods := #[]
  instanceTypes := #[(.object "java/lang/String"), .int, .int]
  staticTypes := #[]
  resolved := Array.replicate 204 none
  statics := none }

def pool7 : Array CpInfo := pool [(1, .class_ 2), (0, u "com/example/framebeat/framebeat/FrameScheduler$Kind"), (2, u "INPUT"), (0, u "Lcom/example/framebeat/framebeat/FrameScheduler$Kind;"), (2, u "ANIMATION"), (2, u "INSETS_ANIMATION"), (2, u "TRAVERSAL"), (2, u "COMMIT"), (0, .fieldref 1 20), (0, .nameAndType 21 22), (0, u "$VALUES"), (0, u "[Lcom/example/framebeat/framebeat/FrameScheduler$Kind;"), (0, .methodref 24 25), (0, .class_ 22), (0, .nameAndType 26 27), (0, u "clone"), (0, u "()Ljava/lang/Object;"), (1, .class_ 31), (1, u "java/lang/Enum"), (15, u "()[Lcom/example/framebeat/framebeat/FrameScheduler$Kind;"), (0, u "values"), (11, .class_ 61), (0, u "com/example/framebeat/framebeat/FrameScheduler")] 2

def k7c0 : Code := { maxStack := 1, maxLocals := 0, code := prog_13_method_1_code, exceptionTable := #[], attributes := #[] }
def k7m0 : Method := { name := "values", desc := "()[Lcom/example/framebeat/framebeat/FrameScheduler$Kind;", sig := { parameters := [], returnType := some (.array (.object "com/example/framebeat/framebeat/FrameScheduler$Kind")) }, accessFlags := 9, code := some k7c0 }
/-- com/example/framebeat/framebeat/FrameScheduler$Kind -/
def k7 : Class := { plain "com/example/framebeat/framebeat/FrameScheduler$Kind" (some 6) with
  accessFlags := 16433
  interfaces := #[]
  cf := some (fileOf pool7 1 #[.nestHost 60] #[{ accessFlags := 9, nameIndex := 48, descriptorIndex := 47, attributes := #[] }] 16433 29 #[] #[{ accessFlags := 16409, nameIndex := 5, descriptorIndex := 6, attributes := #[] }, { accessFlags := 16409, nameIndex := 9, descriptorIndex := 6, attributes := #[] }, { accessFlags := 16409, nameIndex := 12, descriptorIndex := 6, attributes := #[] }, { accessFlags := 16409, nameIndex := 15, descriptorIndex := 6, attributes := #[] }, { accessFlags := 16409, nameIndex := 18, descriptorIndex := 6, attributes := #[] }, { accessFlags := 4122, nameIndex := 21, descriptorIndex := 22, attributes := #[] }])
  fields := #[{ name := "INPUT", type := (.object "com/example/framebeat/framebeat/FrameScheduler$Kind"), accessFlags := 16409, slot := 0, constantValue := 0 }, { name := "ANIMATION", type := (.object "com/example/framebeat/framebeat/FrameScheduler$Kind"), accessFlags := 16409, slot := 1, constantValue := 0 }, { name := "INSETS_ANIMATION", type := (.object "com/example/framebeat/framebeat/FrameScheduler$Kind"), accessFlags := 16409, slot := 2, constantValue := 0 }, { name := "TRAVERSAL", type := (.object "com/example/framebeat/framebeat/FrameScheduler$Kind"), accessFlags := 16409, slot := 3, constantValue := 0 }, { name := "COMMIT", type := (.object "com/example/framebeat/framebeat/FrameScheduler$Kind"), accessFlags := 16409, slot := 4, constantValue := 0 }, { name := "$VALUES", type := (.array (.object "com/example/framebeat/framebeat/FrameScheduler$Kind")), accessFlags := 4122, slot := 5, constantValue := 0 }]
  methods := #[k7m0]
  instanceTypes := #[(.object "java/lang/String"), .int, .int]
  staticTypes := #[(.object "com/example/framebeat/framebeat/FrameScheduler$Kind"), (.object "com/example/framebeat/framebeat/FrameScheduler$Kind"), (.object "com/example/framebeat/framebeat/FrameScheduler$Kind"), (.object "com/example/framebeat/framebeat/FrameScheduler$Kind"), (.object "com/example/framebeat/framebeat/FrameScheduler$Kind"), (.array (.object "com/example/framebeat/framebeat/FrameScheduler$Kind"))]
  resolved := Array.replicate 64 none
  statics := some 0 }

def pool8 : Array CpInfo := pool [(1, .class_ 2), (0, u "java/lang/Cloneable"), (0, .class_ 4), (0, u "java/lang/Object")] 2

/-- java/lang/Cloneable -/
def k8 : Class := { plain "java/lang/Cloneable" (some 0) with
  accessFlags := 1537
  interfaces := #[]
  cf := some (fileOf pool8 1 #[] #[] 1537 3 #[] #[])
  fields := #[]
  methods := #[]
  instanceTypes := #[]
  staticTypes := #[]
  resolved := Array.replicate 7 none
  statics := none }

/-- the primitive byte -/
def k9 : Class := { plain "byte" none with kind := .primitive 'B', accessFlags := 0x411 }
/-- [B -/
def k10 : Class := { plain "[B" (some 0) with kind := .array 9 .byte, interfaces := #[8, 5], accessFlags := 1041 }

/-- the primitive int -/
def k11 : Class := { plain "int" none with kind := .primitive 'I', accessFlags := 0x411 }
/-- [I -/
def k12 : Class := { plain "[I" (some 0) with kind := .array 11 .int, interfaces := #[8, 5], accessFlags := 1041 }

/-- the primitive long -/
def k13 : Class := { plain "long" none with kind := .primitive 'J', accessFlags := 0x411 }
/-- [J -/
def k14 : Class := { plain "[J" (some 0) with kind := .array 13 .long, interfaces := #[8, 5], accessFlags := 1041 }

/-- [Lcom/example/framebeat/framebeat/FrameScheduler$Kind; -/
def k15 : Class := { plain "[Lcom/example/framebeat/framebeat/FrameScheduler$Kind;" (some 0) with kind := .array 7 (.object "com/example/framebeat/framebeat/FrameScheduler$Kind"), interfaces := #[8, 5], accessFlags := 1041 }

def heap : Heap := #[{ cls := 7, slots := #[.ref 2, .ref 3, .ref 4, .ref 5, .ref 6, .ref 1], vm := .statics 7 },
  { cls := 15, slots := #[.ref 2, .ref 3, .ref 4, .ref 5, .ref 6], vm := .none },
  { cls := 7, slots := #[.null, .int 0, .int 0], vm := .none },
  { cls := 7, slots := #[.null, .int 0, .int 0], vm := .none },
  { cls := 7, slots := #[.null, .int 0, .int 0], vm := .none },
  { cls := 7, slots := #[.null, .int 0, .int 0], vm := .none },
  { cls := 7, slots := #[.null, .int 0, .int 0], vm := .none }]
def classes : Array Class := #[k0, k1, k2, k3, k4, k5, k6, k7, k8, k9, k10, k11, k12, k13, k14, k15]
def interned : List (Array UInt16 × Addr) := []
def slotsUsed : Nat := 26
def theMethod : MethodId := ⟨1, 1⟩
def args0 : Array Value := #[.long 5, .long 5, .long 5, .long 5, .long 5, .long 5]
def aboutOver (below : List Frame) : State where
  vm := { classes := classes, interned := interned.toArray }
  heap := heap
  slotsUsed := slotsUsed
  threads := #[{ frames := .invoking theMethod args0 :: below }]
def below0 : List Frame := [.native { method := ⟨0, 0⟩, args := #[] }]
def about1 : State := aboutOver below0
def p0 : Program := .bare "" "" ""
def e0 : Env := launch0.env 0 0 0
theorem w_frames : about1.frames = Frame.invoking theMethod args0 :: below0 := rfl
set_option maxRecDepth 65536 in
theorem w_args : argsFit about1.vm theMethod args0 = true := by decide +kernel
set_option maxRecDepth 65536 in
theorem w_heap : heapFits about1 = true := by decide +kernel
set_option maxRecDepth 65536 in
theorem w_runnable : about1.curStatus? = some .runnable := by decide +kernel
set_option maxRecDepth 65536 in
theorem w_alone : about1.alone = true := by decide +kernel
set_option maxRecDepth 65536 in
theorem w_named : about1.methodNamed? x = some theMethod := by decide +kernel
set_option maxRecDepth 65536 in
theorem w_hears : about1.hears theMethod below0 = true := by decide +kernel
set_option maxRecDepth 65536 in
theorem w_ripe : about1.ripe theMethod args0 below0 = true := by decide +kernel
theorem w_running : about1.status = .running := rfl
set_option maxRecDepth 65536 in
theorem w_room : about1.hasRoom e0.platform room_1 = true :=
  launch0.hasRoom_least _ room_1 (by decide +kernel) (by decide +kernel) (by decide +kernel) (by decide +kernel) (by decide +kernel) (by decide +kernel)
theorem allAtoms_all (ts : List Jvm.Cond) (a : Array Jvm.Value) (st : Jvm.State) : (allAtoms ts).before a st = ts.all (fun c => c.before a st) := by
  induction ts with
  | nil => rfl
  | cons c t ih =>
    show (Jvm.Cond.and c (allAtoms t)).before a st = _
    rw [Jvm.Cond.before_and, ih, List.all_cons]
def words1 : List Jvm.Cond := Jvm.Cond.code x code maxLocals ret :: tables_1
/-- a 'code' word, met by the world's own term for the bytes: nothing is compared byte by byte -/
theorem code_word {y : MethodName} {bytes : ByteArray} {mx : Nat} {rt : Option FieldType} {a : Array Value} {s : State} {m : MethodId} {meth : Method} {c : Code} (h1 : s.methodNamed? y = some m) (h2 : s.vm.method? m = some meth) (h3 : meth.code = some c) (h4 : c.code = bytes)
    (h5 : (c.maxLocals == mx && c.exceptionTable.isEmpty && decide (c.maxStack ≤ mostOperands) && decide (meth.sig.returnType = rt) && !meth.locks && decide (parseMethodDescriptor y.desc = some meth.sig)) = true) : (Jvm.Cond.code y bytes mx rt).before a s = true := by
  simp only [Bool.and_eq_true, beq_iff_eq, Bool.not_eq_true', decide_eq_true_eq] at h5
  obtain ⟨⟨⟨⟨⟨g1, g2⟩, g3⟩, g4⟩, g5⟩, g6⟩ := h5
  simp [Cond.before, Cond.holds, Cond.value, h1, h2, h3, h4, g1, g2, g3, g4, g5, g6]
def isCode : Jvm.Cond → Bool
  | .code _ _ _ _ => true
  | _ => false
theorem all_split {L : List Jvm.Cond} {P : Jvm.Cond → Bool} (h1 : L.all (fun c => isCode c || P c) = true) (h2 : ∀ c ∈ L.filter isCode, P c = true) : L.all P = true := by
  refine List.all_eq_true.mpr fun c hc => ?_
  have h := List.all_eq_true.mp h1 c hc
  rcases Bool.eq_false_or_eq_true (isCode c) with hi | hi
  · exact h2 c (List.mem_filter.mpr ⟨hc, hi⟩)
  · simpa [hi] using h
set_option maxRecDepth 65536 in
theorem w_c0 : (Jvm.Cond.code x code maxLocals ret).before args0 about1 = true := code_word (m := ⟨1, 1⟩) (meth := k1m1) (c := k1c1) (by decide +kernel) rfl rfl rfl (by decide +kernel)
set_option maxRecDepth 65536 in
theorem w_c1 : (Jvm.Cond.code ({ cls := "com/example/framebeat/framebeat/FrameTimeline", name := "<init>", desc := "()V" } : Jvm.MethodName) prog_19_method_1_code (1 : Nat) (Option.none : Option Jvm.ClassFile.FieldType)).before args0 about1 = true := code_word (m := ⟨2, 0⟩) (meth := k2m0) (c := k2c0) (by decide +kernel) rfl rfl rfl (by decide +kernel)
set_option maxRecDepth 65536 in
theorem w_c2 : (Jvm.Cond.code ({ cls := "java/lang/Object", name := "<init>", desc := "()V" } : Jvm.MethodName) object_method_1_code (1 : Nat) (Option.none : Option Jvm.ClassFile.FieldType)).before args0 about1 = true := code_word (m := ⟨0, 0⟩) (meth := k0m0) (c := k0c0) (by decide +kernel) rfl rfl rfl (by decide +kernel)
set_option maxRecDepth 65536 in
theorem w_c3 : (Jvm.Cond.code ({ cls := "com/example/framebeat/framebeat/FrameScheduler$Kind", name := "values", desc := "()[Lcom/example/framebeat/framebeat/FrameScheduler$Kind;" } : Jvm.MethodName) prog_13_method_1_code (0 : Nat) (Option.some (Jvm.ClassFile.FieldType.array (Jvm.ClassFile.FieldType.object "com/example/framebeat/framebeat/FrameScheduler$Kind")))).before args0 about1 = true := code_word (m := ⟨7, 0⟩) (meth := k7m0) (c := k7c0) (by decide +kernel) rfl rfl rfl (by decide +kernel)
set_option maxRecDepth 65536 in
theorem w_c4 : (Jvm.Cond.code ({ cls := "com/example/framebeat/framebeat/FrameTimeline", name := "end", desc := "(J)V" } : Jvm.MethodName) prog_19_method_11_code (3 : Nat) (Option.none : Option Jvm.ClassFile.FieldType)).before args0 about1 = true := code_word (m := ⟨2, 8⟩) (meth := k2m8) (c := k2c8) (by decide +kernel) rfl rfl rfl (by decide +kernel)
set_option maxRecDepth 65536 in
theorem w_c5 : (Jvm.Cond.code ({ cls := "com/example/framebeat/framebeat/FrameTimeline", name := "begin", desc := "(JJJJJ)V" } : Jvm.MethodName) prog_19_method_9_code (11 : Nat) (Option.none : Option Jvm.ClassFile.FieldType)).before args0 about1 = true := code_word (m := ⟨2, 7⟩) (meth := k2m7) (c := k2c7) (by decide +kernel) rfl rfl rfl (by decide +kernel)
set_option maxRecDepth 65536 in
theorem w_c6 : (Jvm.Cond.code ({ cls := "com/example/framebeat/framebeat/FrameTimeline", name := "periodNanos", desc := "()J" } : Jvm.MethodName) prog_19_method_2_code (1 : Nat) (Option.some Jvm.ClassFile.FieldType.long)).before args0 about1 = true := code_word (m := ⟨2, 1⟩) (meth := k2m1) (c := k2c1) (by decide +kernel) rfl rfl rfl (by decide +kernel)
set_option maxRecDepth 65536 in
theorem w_c7 : (Jvm.Cond.code ({ cls := "com/example/framebeat/framebeat/FrameTimeline", name := "intendedVsyncNanos", desc := "()J" } : Jvm.MethodName) prog_19_method_3_code (1 : Nat) (Option.some Jvm.ClassFile.FieldType.long)).before args0 about1 = true := code_word (m := ⟨2, 2⟩) (meth := k2m2) (c := k2c2) (by decide +kernel) rfl rfl rfl (by decide +kernel)
set_option maxRecDepth 65536 in
theorem w_c8 : (Jvm.Cond.code ({ cls := "com/example/framebeat/framebeat/FrameTimeline", name := "frameTimeNanos", desc := "()J" } : Jvm.MethodName) prog_19_method_4_code (1 : Nat) (Option.some Jvm.ClassFile.FieldType.long)).before args0 about1 = true := code_word (m := ⟨2, 3⟩) (meth := k2m3) (c := k2c3) (by decide +kernel) rfl rfl rfl (by decide +kernel)
set_option maxRecDepth 65536 in
theorem w_c9 : (Jvm.Cond.code ({ cls := "com/example/framebeat/framebeat/FrameTimeline", name := "startNanos", desc := "()J" } : Jvm.MethodName) prog_19_method_5_code (1 : Nat) (Option.some Jvm.ClassFile.FieldType.long)).before args0 about1 = true := code_word (m := ⟨2, 4⟩) (meth := k2m4) (c := k2c4) (by decide +kernel) rfl rfl rfl (by decide +kernel)
set_option maxRecDepth 65536 in
theorem w_c10 : (Jvm.Cond.code ({ cls := "com/example/framebeat/framebeat/FrameTimeline", name := "missedVsyncs", desc := "()J" } : Jvm.MethodName) prog_19_method_8_code (1 : Nat) (Option.some Jvm.ClassFile.FieldType.long)).before args0 about1 = true := code_word (m := ⟨2, 6⟩) (meth := k2m6) (c := k2c6) (by decide +kernel) rfl rfl rfl (by decide +kernel)
set_option maxRecDepth 65536 in
theorem w_c11 : (Jvm.Cond.code ({ cls := "com/example/framebeat/framebeat/FrameTimeline", name := "endNanos", desc := "()J" } : Jvm.MethodName) prog_19_method_7_code (1 : Nat) (Option.some Jvm.ClassFile.FieldType.long)).before args0 about1 = true := code_word (m := ⟨2, 5⟩) (meth := k2m5) (c := k2c5) (by decide +kernel) rfl rfl rfl (by decide +kernel)
def codes1 : List Jvm.Cond := [Jvm.Cond.code x code maxLocals ret, Jvm.Cond.code ({ cls := "com/example/framebeat/framebeat/FrameTimeline", name := "<init>", desc := "()V" } : Jvm.MethodName) prog_19_method_1_code (1 : Nat) (Option.none : Option Jvm.ClassFile.FieldType), Jvm.Cond.code ({ cls := "java/lang/Object", name := "<init>", desc := "()V" } : Jvm.MethodName) object_method_1_code (1 : Nat) (Option.none : Option Jvm.ClassFile.FieldType), Jvm.Cond.code ({ cls := "com/example/framebeat/framebeat/FrameScheduler$Kind", name := "values", desc := "()[Lcom/example/framebeat/framebeat/FrameScheduler$Kind;" } : Jvm.MethodName) prog_13_method_1_code (0 : Nat) (Option.some (Jvm.ClassFile.FieldType.array (Jvm.ClassFile.FieldType.object "com/example/framebeat/framebeat/FrameScheduler$Kind"))), Jvm.Cond.code ({ cls := "com/example/framebeat/framebeat/FrameTimeline", name := "end", desc := "(J)V" } : Jvm.MethodName) prog_19_method_11_code (3 : Nat) (Option.none : Option Jvm.ClassFile.FieldType), Jvm.Cond.code ({ cls := "com/example/framebeat/framebeat/FrameTimeline", name := "begin", desc := "(JJJJJ)V" } : Jvm.MethodName) prog_19_method_9_code (11 : Nat) (Option.none : Option Jvm.ClassFile.FieldType), Jvm.Cond.code ({ cls := "com/example/framebeat/framebeat/FrameTimeline", name := "periodNanos", desc := "()J" } : Jvm.MethodName) prog_19_method_2_code (1 : Nat) (Option.some Jvm.ClassFile.FieldType.long), Jvm.Cond.code ({ cls := "com/example/framebeat/framebeat/FrameTimeline", name := "intendedVsyncNanos", desc := "()J" } : Jvm.MethodName) prog_19_method_3_code (1 : Nat) (Option.some Jvm.ClassFile.FieldType.long), Jvm.Cond.code ({ cls := "com/example/framebeat/framebeat/FrameTimeline", name := "frameTimeNanos", desc := "()J" } : Jvm.MethodName) prog_19_method_4_code (1 : Nat) (Option.some Jvm.ClassFile.FieldType.long), Jvm.Cond.code ({ cls := "com/example/framebeat/framebeat/FrameTimeline", name := "startNanos", desc := "()J" } : Jvm.MethodName) prog_19_method_5_code (1 : Nat) (Option.some Jvm.ClassFile.FieldType.long), Jvm.Cond.code ({ cls := "com/example/framebeat/framebeat/FrameTimeline", name := "missedVsyncs", desc := "()J" } : Jvm.MethodName) prog_19_method_8_code (1 : Nat) (Option.some Jvm.ClassFile.FieldType.long), Jvm.Cond.code ({ cls := "com/example/framebeat/framebeat/FrameTimeline", name := "endNanos", desc := "()J" } : Jvm.MethodName) prog_19_method_7_code (1 : Nat) (Option.some Jvm.ClassFile.FieldType.long)]
set_option maxRecDepth 65536 in
theorem codes_eq : words1.filter isCode = codes1 := rfl
theorem w_codes : ∀ c ∈ words1.filter isCode, c.before args0 about1 = true := by
  rw [codes_eq]
  intro c hc
  simp only [codes1, List.mem_cons, List.not_mem_nil, or_false] at hc
  rcases hc with rfl | rfl | rfl | rfl | rfl | rfl | rfl | rfl | rfl | rfl | rfl | rfl
  · exact w_c0
  · exact w_c1
  · exact w_c2
  · exact w_c3
  · exact w_c4
  · exact w_c5
  · exact w_c6
  · exact w_c7
  · exact w_c8
  · exact w_c9
  · exact w_c10
  · exact w_c11
set_option maxRecDepth 65536 in
theorem w_t1 : (words1.take 24).all (fun c => isCode c || c.before args0 about1) = true := by decide +kernel
set_option maxRecDepth 65536 in
theorem w_t2 : ((words1.drop 24).take 24).all (fun c => isCode c || c.before args0 about1) = true := by decide +kernel
set_option maxRecDepth 65536 in
theorem w_t3 : (((words1.drop 24).drop 24).take 24).all (fun c => isCode c || c.before args0 about1) = true := by decide +kernel
set_option maxRecDepth 65536 in
theorem w_t4 : (((words1.drop 24).drop 24).drop 24).all (fun c => isCode c || c.before args0 about1) = true := by decide +kernel
theorem w_tables : (allAtoms (Jvm.Cond.code x code maxLocals ret :: tables_1)).before args0 about1 = true := by
  rw [allAtoms_all]
  show words1.all (fun c => c.before args0 about1) = true
  refine all_split ?_ w_codes
  rw [← List.take_append_drop 24 words1, List.all_append, w_t1, ← List.take_append_drop 24 (words1.drop 24), List.all_append, w_t2, ← List.take_append_drop 24 ((words1.drop 24).drop 24), List.all_append, w_t3, w_t4]
  rfl
set_option maxRecDepth 65536 in
theorem w_case : (Jvm.Cond.and given_1 narrow_1).before args0 about1 = true := by decide +kernel
theorem w_applies : (headSpec (Jvm.Cond.code x code maxLocals ret :: tables_1) room_1).applies x e0.platform about1 = true :=
  (Spec.applies_iff w_frames).mpr ⟨w_running, w_runnable, w_alone, w_named, w_hears, w_ripe, w_room, w_tables⟩
theorem atStart : AtStart classFile x code maxLocals ret World_1 tables_1 room_1 Calls_1 rest_1 Pre_1 launch0 p0 e0 about1 theMethod args0 below0 :=
  ⟨lists_1, trivial, launch0.admits_env _ _ _, launch0.least_env, fairChoices_fair.cas, fairChoices_fair.clock, w_frames, w_args, w_heap, w_applies, trivial, trivial, w_case⟩
end start1
theorem witness_1 : WitnessClaimed_1 := ⟨start1.p0, start1.e0, start1.about1, start1.theMethod, start1.args0, start1.below0, start1.atStart⟩
end Jvm.Pilot.@@N@@
